import JvmDerived
import JvmDerived.Pilot.@@N@@Statement
import JvmDerived.Pilot.@@N@@Code
set_option linter.unusedVariables false
set_option linter.unusedSimpArgs false
namespace Jvm.Pilot.@@N@@
open Jvm Jvm.ClassFile Sem Op Lib Jvm.Free Jvm.Stand Jvm.LawKit Jvm.RoadKit Bundle Jvm.Pilot.@@N@@.Jvm.D
abbrev Kx : Type := Program × Env × State × MethodId × Array Value × List Frame × Method × Code
def Inv (Z : State) (ws : List Addr) (h0 : Heap) (S : List Addr) (h : Heap) : Prop :=
  Ext Z.heap h ∧ Keep h0 h ws ∧ ∀ x ∈ S, x < h.size ∧ Z.heap.size ≤ x ∧ (x ∈ ws ∨ h0.size ≤ x)
def Cx (Z : State) (a0 : Array Value) (y : MethodName) (by0 : ByteArray) (ml : Nat) (rt : Option FieldType) : Kx → Prop
  | (p, _, s, m, _, _, meth, c) => p.tables.exec = Jvm.exec ∧ c.code = by0 ∧ c.maxLocals = ml ∧ s.vm.findClass y.cls = some m.cls ∧ meth.name = y.name ∧ meth.sig.returnType = rt ∧ meth.locks = false ∧ Z.Warmed39 s.vm
theorem fr_snoc {k : Nat} {L : List Loc} (N : Fr k L) {a : Addr} {i : Nat} (q : k ≤ a) : Fr k (L ++ [⟨a, i⟩]) := fun y hy => by
  rcases List.mem_append.mp hy with hy | hy
  · exact N y hy
  · rw [List.mem_singleton.mp hy]; exact q
theorem hq {Z : State} {a0 : Array Value} {ts : List Jvm.Cond} (hw : ∀ d ∈ ts, d.before a0 Z = true) (i : Nat) {d : Jvm.Cond} (q : ts[i]? = some d) : d.before a0 Z = true := hw _ (List.mem_of_getElem? q)
theorem nltle {a b c : Nat} (h : a < b) (q : b ≤ c) : a < c := Nat.lt_of_lt_of_le h q
theorem nble {a b : Nat} (h : Nat.ble a b = true) : a ≤ b := Nat.le_of_ble_eq_true h
theorem nfS {Z : State} {a0 : Array Value} {y : MethodName} {C : String} (w : (Cond.selects C y y).before a0 Z = true) : ∀ (s : State), Z.Warmed39 s.vm → NotFace s y := fun _ hZ => notFace_of_selects (args := #[]) (mvT hZ w)
theorem mi {S : List Addr} (i : Nat) {a : Addr} (q : S[i]? = some a) : a ∈ S := List.mem_of_getElem? q
section InvLaws
variable {Z : State} {ws ws' S bs : List Addr} {h0 h h' : Heap} {a : Addr} {i : Nat} {v : Value}
theorem Inv.new (I : Inv Z ws h0 S h) (E : Ext h h') (hl : h.size < h'.size) : Inv Z ws h0 (h.size :: S) h' := by
  refine ⟨⟨Nat.le_trans I.1.1 E.1, fun a c q => E.2 a c (I.1.2 a c q)⟩, I.2.1.ext E, fun x hx => ?_⟩
  rcases List.mem_cons.mp hx with rfl | hx
  · exact ⟨hl, I.1.1, Or.inr I.2.1.1⟩
  · exact ⟨nltle (I.2.2 x hx).1 E.1, (I.2.2 x hx).2⟩
theorem Inv.ext (I : Inv Z ws h0 S h) (E : Ext h h') : Inv Z ws h0 S h' :=
  ⟨⟨Nat.le_trans I.1.1 E.1, fun a c q => E.2 a c (I.1.2 a c q)⟩, I.2.1.ext E, fun x hx => ⟨nltle (I.2.2 x hx).1 E.1, (I.2.2 x hx).2⟩⟩
theorem Inv.wr (I : Inv Z ws h0 S h) (W : Wr h h' a i v) (ha : a ∈ S) : Inv Z ws h0 S h' :=
  ⟨(Old.wr ⟨rfl, I.1⟩ W (I.2.2 a ha).2.1).2, I.2.1.wr W (I.2.2 a ha).2.2, fun x hx => ⟨W.size.symm ▸ (I.2.2 x hx).1, (I.2.2 x hx).2⟩⟩
theorem Inv.keep (I : Inv Z ws h0 S h) (K : Keep h h' ws') (hs : ∀ x ∈ ws', x ∈ S) : Inv Z ws h0 S h' :=
  ⟨(Old.keep ⟨rfl, I.1⟩ K (fun x hx => (I.2.2 x (hs x hx)).2.1)).2, I.2.1.trans K (fun x hx => (I.2.2 x (hs x hx)).2.2), fun x hx => ⟨nltle (I.2.2 x hx).1 K.1, (I.2.2 x hx).2⟩⟩
theorem Inv.add (I : Inv Z ws h0 S h) (I' : Inv Z ws h0 S h') (hb : ∀ b ∈ bs, h.size ≤ b ∧ b < h'.size) : Inv Z ws h0 (bs ++ S) h' :=
  ⟨I'.1, I'.2.1, fun x hx => (List.mem_append.mp hx).elim (fun q => ⟨(hb x q).2, Nat.le_trans I.1.1 (hb x q).1, Or.inr (Nat.le_trans I.2.1.1 (hb x q).1)⟩) (fun q => I'.2.2 x q)⟩
theorem Inv.drop (I : Inv Z ws h0 S h) {S' : List Addr} (hs : ∀ x ∈ S', x ∈ S) : Inv Z ws h0 S' h := ⟨I.1, I.2.1, fun x hx => I.2.2 x (hs x hx)⟩
end InvLaws
theorem decl_of {Z : State} {a0 : Array Value} {y : MethodName} {b : ByteArray} {ml : Nat} {rt : Option FieldType} (wi : (Cond.instanceMethod y).before a0 Z = true) (wc : (Cond.code y b ml rt).before a0 Z = true) : (Cond.declares y).before a0 Z = true := by
  obtain ⟨mk, meth, h1, h2, h3, h4⟩ := Cond.instanceMethod_spec wi
  obtain ⟨m2, c, q1, -, -, -, -, -, -, hsig⟩ := Cond.code_spec h1 wc
  cases h2.symm.trans q1
  simp [Cond.before, Cond.holds, Cond.value, h1, h2, h3, hsig]
theorem nf_cls {s : State} {a0 : Array Value} {y y' y0 : MethodName} {C : String} (w : (Cond.selects C y0 y').before a0 s = true) (hc : y'.cls = y.cls) : NotFace s y := fun r0 h0 => by
  obtain ⟨c2, r2, m2, q1, q2, q3, q4, kP, hkP, hkPi⟩ := Cond.selects_spec w
  have e1 := findClass_of_methodNamed h0
  have e2 := findClass_of_methodNamed q3
  rw [hc] at e2
  have e3 : r0.cls = m2.cls := Option.some.inj (e1.symm.trans e2)
  exact ⟨kP, by rw [e3]; exact hkP, hkPi⟩
theorem same_of {Z : State} {a0 : Array Value} {y : MethodName} (wi : (Cond.instanceMethod y).before a0 Z = true) (nf : NotFace Z y) (hx : y.cls ≠ "java/lang/invoke/MethodHandle" ∧ y.cls ≠ "java/lang/invoke/VarHandle") : (Cond.sameMethod y.cls y.cls y.name y.desc).before a0 Z = true := by
  obtain ⟨mk, meth, h1, h2, h3, h4⟩ := Cond.instanceMethod_spec wi
  have hf := State.methodFound?_of_named h1 hx
  have hc := findClass_of_methodNamed h1
  obtain ⟨k, hk, hi⟩ := nf mk h1
  have h1' : Z.methodNamed? ⟨y.cls, y.name, y.desc⟩ = some mk := h1
  simp [Cond.before, Cond.holds, Cond.value, hc, hf, h1', hk, hi]
theorem ext_refl (h : Heap) : Ext h h := ⟨Nat.le_refl _, fun _ _ q => q⟩
theorem mems0 {S : List Addr} : ∀ x ∈ ([] : List Addr), x ∈ S := fun _ q => nomatch q
theorem memsS {x : Addr} {L S : List Addr} (q : x ∈ S) (r : ∀ z ∈ L, z ∈ S) : ∀ z ∈ x :: L, z ∈ S := fun z hz => by
  rcases List.mem_cons.mp hz with rfl | hz
  · exact q
  · exact r z hz
theorem fresh0 {n n' : Nat} : ∀ b ∈ ([] : List Addr), n ≤ b ∧ b < n' := fun _ q => nomatch q
theorem freshS {n n' : Nat} {b : Addr} {L : List Addr} (q : n ≤ b ∧ b < n') (r : ∀ z ∈ L, n ≤ z ∧ z < n') : ∀ z ∈ b :: L, n ≤ z ∧ z < n' := fun z hz => by
  rcases List.mem_cons.mp hz with rfl | hz
  · exact q
  · exact r z hz
/-- the contract of a body that interns nothing -/
def Ct (l : Launch) (Z : State) (y : MethodName) (by0 : ByteArray) (ml : Nat) (rt : Option FieldType) (rm : Room) (as : Array Value) (h0 : Heap) (ws : List Addr) (Q : Option Value → Heap → Prop) : Prop :=
  Ext Z.heap h0 → (∀ x ∈ ws, x < h0.size ∧ Z.heap.size ≤ x) → ∀ tw : List Jvm.Cond, MetFree l y (head1 (Jvm.Cond.code y by0 ml rt :: tw) rm) (fun a U => a = as ∧ Z.Warmed39 U.vm ∧ U.heap = h0) (fun _ _ _ _ _ => True)
    (fun _ U o U' => ∃ v L, o = .returned v ∧ (Keep h0 U'.heap ws ∧ Q v U'.heap ∧ Fr Z.heap.size L) ∧ FrameEnd U o U' L rm.cells rm.slots)
/-- what a call of z costs and gives: fr frames, lo words, cc cells, ss slots -/
def Py (l : Launch) (Z : State) (z : MethodName) (fr lo cc ss : Nat) (as : Array Value) (h : Heap) (ws : List Addr) (Q : Option Value → Heap → Prop) : Prop :=
  Ext Z.heap h → (∀ x ∈ ws, x < h.size ∧ Z.heap.size ≤ x) → ∀ (p : Program) (e : Env) (R : Room) (below : List Frame) (s : State) (args : Array Value) (len W : Nat), Z.Warmed39 s.vm → fr ≤ R.frames → W + lo ≤ R.locals →
    Back l R p e below s args z len W (fun A a => a = as ∧ A.U.heap = h ∧ A.cells + cc ≤ R.cells ∧ A.slots + ss ≤ R.slots) (fun A _ v B => ∃ L, (Keep h B.U.heap ws ∧ Q v B.U.heap ∧ Fr Z.heap.size L) ∧ B.locs = A.locs ++ L ∧ B.cells = A.cells + cc ∧ B.slots = A.slots + ss)
theorem Ct.py {l : Launch} {Z : State} {a0 : Array Value} {y : MethodName} {by0 : ByteArray} {ml : Nat} {rt : Option FieldType} {rm : Room} {as : Array Value} {h0 : Heap} {ws : List Addr} {Q : Option Value → Heap → Prop} (hM : Ct l Z y by0 ml rt rm as h0 ws Q) (wc : (Cond.code y by0 ml rt).before a0 Z = true) (wz : (Cond.initialized y.cls).before a0 Z = true) : Py l Z y (rm.frames + 1) (ml + 11 + rm.locals) rm.cells rm.slots as h0 ws Q :=
  fun hO hws p e R below s args len W hZ hf hl => backOf (W := W) (Q := fun v hp L => Keep h0 hp ws ∧ Q v hp ∧ Fr Z.heap.size L) (hM hO hws []) hZ wc wz hf (by rw [Nat.add_assoc]; exact hl)
def Go (l : Launch) (R : Room) (Z : State) (ws : List Addr) (h0 : Heap) (Q : Option Value → Heap → Prop) (κ : Kx) (S : List Addr) (h : Heap) (pc : Nat) (Ls : Array Slot) (st : List Value) (ce sl : Nat) : Prop := match κ with
  | (p, e, s, m, args, below, meth, c) => ∀ T locs, Stand p l e R s m args below meth c T locs ce sl → Fr Z.heap.size locs → T.heap = h → Inv Z ws h0 S h →
    ∃ s₂ o, Steps p.tables e below (T.setTop (mkF m pc Ls st)) s₂ ∧ s₂.status = .running ∧ Ended s₂ below o ∧ ∃ v L, o = .returned v ∧ (Keep h0 s₂.heap ws ∧ Q v s₂.heap ∧ Fr Z.heap.size L) ∧ FrameEnd s o s₂ L R.cells R.slots
theorem Ct.mk {l : Launch} {Z : State} {a0 : Array Value} {y : MethodName} {by0 : ByteArray} {ml : Nat} {rt : Option FieldType} {rm : Room} {as : Array Value} {h0 : Heap} {ws : List Addr} {Q : Option Value → Heap → Prop} {Ls : Array Slot} (hpl : plainFor y = true) (hef : ∀ m, entryFrame m as ml = mkF m 0 Ls [])
    (k : ∀ κ, Cx Z a0 y by0 ml rt κ → Go l rm Z ws h0 Q κ ws h0 0 Ls [] 0 0) : Ct l Z y by0 ml rt rm as h0 ws Q := by
  intro hO hws tw
  refine MetFree.of_bodySF hpl hisR ?_
  intro p e s m args below meth c s₁ Bd hml0 hP hK
  obtain ⟨rfl, hZ, hh⟩ := hP
  have X0 : Stand p l e rm s m args below meth c s₁ [] 0 0 := Stand.of_body Bd
  have e0 : s₁.heap = h0 := by rw [← hh, Bd.state]; rfl
  obtain ⟨s₂, o, hs, r⟩ := k (p, e, s, m, args, below, meth, c) ⟨Bd.exec, Bd.bytes, hml0, findClass_of_methodNamed Bd.named, (name_of_methodNamed Bd.named Bd.method).1, Bd.returns, BodyLoose.notSynchronized Bd, hZ⟩ s₁ [] X0 (Fr.nil _) e0
    ⟨hO, Keep.refl _ _, fun x hx => ⟨(hws x hx).1, (hws x hx).2, Or.inl hx⟩⟩
  exact ⟨s₂, o, castTop (hef m) hs, r⟩
section StepsN
variable {Z : State} {a0 : Array Value} {y : MethodName} {by0 : ByteArray} {ml : Nat} {rt : Option FieldType} {l : Launch} {R : Room} {ws : List Addr} {h0 : Heap} {Q : Option Value → Heap → Prop} {κ : Kx} {S : List Addr} {h : Heap} {pc : Nat} {Ls : Array Slot} {st : List Value} {ce sl : Nat}
theorem ob' (C : Cx Z a0 y by0 ml rt κ) (pc' : Nat) {j : Fin 4} {v : Int32} (hd : decode by0 pc = .ok (.iload_n j, 1)) (hpc : pc + 1 = pc') (hl : Ls[j.val]? = some (.val (.int v))) (k : Go l R Z ws h0 Q κ S h pc' Ls (.int v :: st) ce sl) : Go l R Z ws h0 Q κ S h pc Ls st ce sl := by
  subst hpc
  obtain ⟨p, e, s, m, args, below, meth, c⟩ := κ
  intro T locs X N eT I
  obtain ⟨hx, hby, hml, hown, hnm, hret, hlk, hZ⟩ := C
  obtain ⟨s₂, o, hs, r⟩ := k T _ X N eT I
  exact ⟨s₂, o, XS.iloadN X.here hx rfl (hb hby hd) hl hs, r⟩
theorem oa' (C : Cx Z a0 y by0 ml rt κ) (pc' : Nat) {j : Nat} {v : Int32} (hd : decode by0 pc = .ok (.iload j, 2)) (hpc : pc + 2 = pc') (hl : Ls[j]? = some (.val (.int v))) (k : Go l R Z ws h0 Q κ S h pc' Ls (.int v :: st) ce sl) : Go l R Z ws h0 Q κ S h pc Ls st ce sl := by
  subst hpc
  obtain ⟨p, e, s, m, args, below, meth, c⟩ := κ
  intro T locs X N eT I
  obtain ⟨hx, hby, hml, hown, hnm, hret, hlk, hZ⟩ := C
  obtain ⟨s₂, o, hs, r⟩ := k T _ X N eT I
  exact ⟨s₂, o, XS.iload X.here hx rfl (hb hby hd) hl hs, r⟩
theorem od' (C : Cx Z a0 y by0 ml rt κ) (pc' : Nat) {j : Fin 4} {v : Value} (hd : decode by0 pc = .ok (.aload_n j, 1)) (hpc : pc + 1 = pc') (hl : Ls[j.val]? = some (.val v)) (hv : v.isRef = true) (k : Go l R Z ws h0 Q κ S h pc' Ls (v :: st) ce sl) : Go l R Z ws h0 Q κ S h pc Ls st ce sl := by
  subst hpc
  obtain ⟨p, e, s, m, args, below, meth, c⟩ := κ
  intro T locs X N eT I
  obtain ⟨hx, hby, hml, hown, hnm, hret, hlk, hZ⟩ := C
  obtain ⟨s₂, o, hs, r⟩ := k T _ X N eT I
  exact ⟨s₂, o, XS.aloadN X.here hx rfl (hb hby hd) hl hv hs, r⟩
theorem oc' (C : Cx Z a0 y by0 ml rt κ) (pc' : Nat) {j : Nat} {v : Value} (hd : decode by0 pc = .ok (.aload j, 2)) (hpc : pc + 2 = pc') (hl : Ls[j]? = some (.val v)) (hv : v.isRef = true) (k : Go l R Z ws h0 Q κ S h pc' Ls (v :: st) ce sl) : Go l R Z ws h0 Q κ S h pc Ls st ce sl := by
  subst hpc
  obtain ⟨p, e, s, m, args, below, meth, c⟩ := κ
  intro T locs X N eT I
  obtain ⟨hx, hby, hml, hown, hnm, hret, hlk, hZ⟩ := C
  obtain ⟨s₂, o, hs, r⟩ := k T _ X N eT I
  exact ⟨s₂, o, XS.aload X.here hx rfl (hb hby hd) hl hv hs, r⟩
theorem ou' (C : Cx Z a0 y by0 ml rt κ) (pc' : Nat) {j : Fin 4} {v : Int64} (hd : decode by0 pc = .ok (.lload_n j, 1)) (hpc : pc + 1 = pc') (hl : Ls[j.val]? = some (.val (.long v))) (k : Go l R Z ws h0 Q κ S h pc' Ls (.long v :: st) ce sl) : Go l R Z ws h0 Q κ S h pc Ls st ce sl := by
  subst hpc
  obtain ⟨p, e, s, m, args, below, meth, c⟩ := κ
  intro T locs X N eT I
  obtain ⟨hx, hby, hml, hown, hnm, hret, hlk, hZ⟩ := C
  obtain ⟨s₂, o, hs, r⟩ := k T _ X N eT I
  exact ⟨s₂, o, XT.lloadN X.here hx rfl (hb hby hd) hl hs, r⟩
theorem ot' (C : Cx Z a0 y by0 ml rt κ) (pc' : Nat) {j : Nat} {v : Int64} (hd : decode by0 pc = .ok (.lload j, 2)) (hpc : pc + 2 = pc') (hl : Ls[j]? = some (.val (.long v))) (k : Go l R Z ws h0 Q κ S h pc' Ls (.long v :: st) ce sl) : Go l R Z ws h0 Q κ S h pc Ls st ce sl := by
  subst hpc
  obtain ⟨p, e, s, m, args, below, meth, c⟩ := κ
  intro T locs X N eT I
  obtain ⟨hx, hby, hml, hown, hnm, hret, hlk, hZ⟩ := C
  obtain ⟨s₂, o, hs, r⟩ := k T _ X N eT I
  exact ⟨s₂, o, XT.lload X.here hx rfl (hb hby hd) hl hs, r⟩
theorem oe' (C : Cx Z a0 y by0 ml rt κ) (pc' : Nat) {i : Int} (v : Int32) (hd : decode by0 pc = .ok (.iconst i, 1)) (hpc : pc + 1 = pc') (hv : Int32.ofInt i = v) (k : Go l R Z ws h0 Q κ S h pc' Ls (.int v :: st) ce sl) : Go l R Z ws h0 Q κ S h pc Ls st ce sl := by
  subst hpc
  obtain ⟨p, e, s, m, args, below, meth, c⟩ := κ
  intro T locs X N eT I
  obtain ⟨hx, hby, hml, hown, hnm, hret, hlk, hZ⟩ := C
  obtain ⟨s₂, o, hs, r⟩ := k T _ X N eT I
  exact ⟨s₂, o, XT.iconstV X.here hx rfl v (hb hby hd) hv hs, r⟩
theorem om' (C : Cx Z a0 y by0 ml rt κ) (pc' : Nat) {i : Int} (v : Int32) (hd : decode by0 pc = .ok (.bipush i, 2)) (hpc : pc + 2 = pc') (hv : (Int8.ofInt i).toInt32 = v) (k : Go l R Z ws h0 Q κ S h pc' Ls (.int v :: st) ce sl) : Go l R Z ws h0 Q κ S h pc Ls st ce sl := by
  subst hpc
  obtain ⟨p, e, s, m, args, below, meth, c⟩ := κ
  intro T locs X N eT I
  obtain ⟨hx, hby, hml, hown, hnm, hret, hlk, hZ⟩ := C
  obtain ⟨s₂, o, hs, r⟩ := k T _ X N eT I
  exact ⟨s₂, o, XT.bipushV X.here hx rfl v (hb hby hd) hv hs, r⟩
theorem ox' (C : Cx Z a0 y by0 ml rt κ) (pc' : Nat) {i : Int} (v : Int32) (hd : decode by0 pc = .ok (.sipush i, 3)) (hpc : pc + 3 = pc') (hv : (Int16.ofInt i).toInt32 = v) (k : Go l R Z ws h0 Q κ S h pc' Ls (.int v :: st) ce sl) : Go l R Z ws h0 Q κ S h pc Ls st ce sl := by
  subst hpc
  obtain ⟨p, e, s, m, args, below, meth, c⟩ := κ
  intro T locs X N eT I
  obtain ⟨hx, hby, hml, hown, hnm, hret, hlk, hZ⟩ := C
  obtain ⟨s₂, o, hs, r⟩ := k T _ X N eT I
  exact ⟨s₂, o, XT.sipushV X.here hx rfl v (hb hby hd) hv hs, r⟩
theorem on1' (C : Cx Z a0 y by0 ml rt κ) (pc' : Nat) {i : Fin 2} (v : Int64) (hd : decode by0 pc = .ok (.lconst i, 1)) (hpc : pc + 1 = pc') (hv : Int64.ofNat i = v) (k : Go l R Z ws h0 Q κ S h pc' Ls (.long v :: st) ce sl) : Go l R Z ws h0 Q κ S h pc Ls st ce sl := by
  subst hpc
  obtain ⟨p, e, s, m, args, below, meth, c⟩ := κ
  intro T locs X N eT I
  obtain ⟨hx, hby, hml, hown, hnm, hret, hlk, hZ⟩ := C
  obtain ⟨s₂, o, hs, r⟩ := k T _ X N eT I
  exact ⟨s₂, o, XT.lconstV X.here hx rfl v (hb hby hd) hv hs, r⟩
theorem oh2' (C : Cx Z a0 y by0 ml rt κ) (pc' : Nat)  (hd : decode by0 pc = .ok (.aconst_null, 1)) (hpc : pc + 1 = pc')  (k : Go l R Z ws h0 Q κ S h pc' Ls (.null :: st) ce sl) : Go l R Z ws h0 Q κ S h pc Ls st ce sl := by
  subst hpc
  obtain ⟨p, e, s, m, args, below, meth, c⟩ := κ
  intro T locs X N eT I
  obtain ⟨hx, hby, hml, hown, hnm, hret, hlk, hZ⟩ := C
  obtain ⟨s₂, o, hs, r⟩ := k T _ X N eT I
  exact ⟨s₂, o, XS.aconstNull X.here hx rfl (hb hby hd) hs, r⟩
theorem oz' (C : Cx Z a0 y by0 ml rt κ) (pc' : Nat) {x z : Int32} (v : Int32) (hd : decode by0 pc = .ok (.iadd, 1)) (hpc : pc + 1 = pc') (hv : x + z = v) (k : Go l R Z ws h0 Q κ S h pc' Ls (.int v :: st) ce sl) : Go l R Z ws h0 Q κ S h pc Ls (.int z :: .int x :: st) ce sl := by
  subst hpc
  subst hv
  obtain ⟨p, e, s, m, args, below, meth, c⟩ := κ
  intro T locs X N eT I
  obtain ⟨hx, hby, hml, hown, hnm, hret, hlk, hZ⟩ := C
  obtain ⟨s₂, o, hs, r⟩ := k T _ X N eT I
  exact ⟨s₂, o, XS.iadd X.here hx rfl (hb hby hd) rfl hs, r⟩
theorem ow' (C : Cx Z a0 y by0 ml rt κ) (pc' : Nat) {x z : Int32} (v : Int32) (hd : decode by0 pc = .ok (.isub, 1)) (hpc : pc + 1 = pc') (hv : x - z = v) (k : Go l R Z ws h0 Q κ S h pc' Ls (.int v :: st) ce sl) : Go l R Z ws h0 Q κ S h pc Ls (.int z :: .int x :: st) ce sl := by
  subst hpc
  subst hv
  obtain ⟨p, e, s, m, args, below, meth, c⟩ := κ
  intro T locs X N eT I
  obtain ⟨hx, hby, hml, hown, hnm, hret, hlk, hZ⟩ := C
  obtain ⟨s₂, o, hs, r⟩ := k T _ X N eT I
  exact ⟨s₂, o, XS.isub X.here hx rfl (hb hby hd) rfl hs, r⟩
theorem od1' (C : Cx Z a0 y by0 ml rt κ) (pc' : Nat) {x z : Int32} (v : Int32) (hd : decode by0 pc = .ok (.iand, 1)) (hpc : pc + 1 = pc') (hv : x &&& z = v) (k : Go l R Z ws h0 Q κ S h pc' Ls (.int v :: st) ce sl) : Go l R Z ws h0 Q κ S h pc Ls (.int z :: .int x :: st) ce sl := by
  subst hpc
  subst hv
  obtain ⟨p, e, s, m, args, below, meth, c⟩ := κ
  intro T locs X N eT I
  obtain ⟨hx, hby, hml, hown, hnm, hret, hlk, hZ⟩ := C
  obtain ⟨s₂, o, hs, r⟩ := k T _ X N eT I
  exact ⟨s₂, o, XS.iand X.here hx rfl (hb hby hd) rfl hs, r⟩
theorem ok2' (C : Cx Z a0 y by0 ml rt κ) (pc' : Nat) {x z : Int32} (v : Int32) (hd : decode by0 pc = .ok (.ior, 1)) (hpc : pc + 1 = pc') (hv : x ||| z = v) (k : Go l R Z ws h0 Q κ S h pc' Ls (.int v :: st) ce sl) : Go l R Z ws h0 Q κ S h pc Ls (.int z :: .int x :: st) ce sl := by
  subst hpc
  subst hv
  obtain ⟨p, e, s, m, args, below, meth, c⟩ := κ
  intro T locs X N eT I
  obtain ⟨hx, hby, hml, hown, hnm, hret, hlk, hZ⟩ := C
  obtain ⟨s₂, o, hs, r⟩ := k T _ X N eT I
  exact ⟨s₂, o, XT.ior X.here hx rfl (hb hby hd) rfl hs, r⟩
theorem ol2' (C : Cx Z a0 y by0 ml rt κ) (pc' : Nat) {x z : Int32} (v : Int32) (hd : decode by0 pc = .ok (.ixor, 1)) (hpc : pc + 1 = pc') (hv : x ^^^ z = v) (k : Go l R Z ws h0 Q κ S h pc' Ls (.int v :: st) ce sl) : Go l R Z ws h0 Q κ S h pc Ls (.int z :: .int x :: st) ce sl := by
  subst hpc
  subst hv
  obtain ⟨p, e, s, m, args, below, meth, c⟩ := κ
  intro T locs X N eT I
  obtain ⟨hx, hby, hml, hown, hnm, hret, hlk, hZ⟩ := C
  obtain ⟨s₂, o, hs, r⟩ := k T _ X N eT I
  exact ⟨s₂, o, XT.ixor X.here hx rfl (hb hby hd) rfl hs, r⟩
theorem ox1' (C : Cx Z a0 y by0 ml rt κ) (pc' : Nat) {x z : Int32} (v : Int32) (hd : decode by0 pc = .ok (.ishl, 1)) (hpc : pc + 1 = pc') (hv : x <<< (z &&& 31) = v) (k : Go l R Z ws h0 Q κ S h pc' Ls (.int v :: st) ce sl) : Go l R Z ws h0 Q κ S h pc Ls (.int z :: .int x :: st) ce sl := by
  subst hpc
  subst hv
  obtain ⟨p, e, s, m, args, below, meth, c⟩ := κ
  intro T locs X N eT I
  obtain ⟨hx, hby, hml, hown, hnm, hret, hlk, hZ⟩ := C
  obtain ⟨s₂, o, hs, r⟩ := k T _ X N eT I
  exact ⟨s₂, o, XT.ishl X.here hx rfl (hb hby hd) rfl hs, r⟩
theorem ok' (C : Cx Z a0 y by0 ml rt κ) (pc' : Nat) {x z : Int32} (v : Int32) (hd : decode by0 pc = .ok (.iushr, 1)) (hpc : pc + 1 = pc') (hv : XT.ushr x z = v) (k : Go l R Z ws h0 Q κ S h pc' Ls (.int v :: st) ce sl) : Go l R Z ws h0 Q κ S h pc Ls (.int z :: .int x :: st) ce sl := by
  subst hpc
  subst hv
  obtain ⟨p, e, s, m, args, below, meth, c⟩ := κ
  intro T locs X N eT I
  obtain ⟨hx, hby, hml, hown, hnm, hret, hlk, hZ⟩ := C
  obtain ⟨s₂, o, hs, r⟩ := k T _ X N eT I
  exact ⟨s₂, o, XT.iushr X.here hx rfl (hb hby hd) rfl hs, r⟩
theorem ow1' (C : Cx Z a0 y by0 ml rt κ) (pc' : Nat) {x : Int32} (v : Int64) (hd : decode by0 pc = .ok (.i2l, 1)) (hpc : pc + 1 = pc') (hv : x.toInt64 = v) (k : Go l R Z ws h0 Q κ S h pc' Ls (.long v :: st) ce sl) : Go l R Z ws h0 Q κ S h pc Ls (.int x :: st) ce sl := by
  subst hpc
  subst hv
  obtain ⟨p, e, s, m, args, below, meth, c⟩ := κ
  intro T locs X N eT I
  obtain ⟨hx, hby, hml, hown, hnm, hret, hlk, hZ⟩ := C
  obtain ⟨s₂, o, hs, r⟩ := k T _ X N eT I
  exact ⟨s₂, o, XT.i2l X.here hx rfl (hb hby hd) rfl hs, r⟩
theorem or1' (C : Cx Z a0 y by0 ml rt κ) (pc' : Nat) {x : Int64} (v : Int32) (hd : decode by0 pc = .ok (.l2i, 1)) (hpc : pc + 1 = pc') (hv : x.toInt32 = v) (k : Go l R Z ws h0 Q κ S h pc' Ls (.int v :: st) ce sl) : Go l R Z ws h0 Q κ S h pc Ls (.long x :: st) ce sl := by
  subst hpc
  subst hv
  obtain ⟨p, e, s, m, args, below, meth, c⟩ := κ
  intro T locs X N eT I
  obtain ⟨hx, hby, hml, hown, hnm, hret, hlk, hZ⟩ := C
  obtain ⟨s₂, o, hs, r⟩ := k T _ X N eT I
  exact ⟨s₂, o, XT.l2i X.here hx rfl (hb hby hd) rfl hs, r⟩
theorem oo2' (C : Cx Z a0 y by0 ml rt κ) (pc' : Nat) {x z : Int64} (v : Int64) (hd : decode by0 pc = .ok (.ladd, 1)) (hpc : pc + 1 = pc') (hv : x + z = v) (k : Go l R Z ws h0 Q κ S h pc' Ls (.long v :: st) ce sl) : Go l R Z ws h0 Q κ S h pc Ls (.long z :: .long x :: st) ce sl := by
  subst hpc
  subst hv
  obtain ⟨p, e, s, m, args, below, meth, c⟩ := κ
  intro T locs X N eT I
  obtain ⟨hx, hby, hml, hown, hnm, hret, hlk, hZ⟩ := C
  obtain ⟨s₂, o, hs, r⟩ := k T _ X N eT I
  exact ⟨s₂, o, XT.ladd X.here hx rfl (hb hby hd) rfl hs, r⟩
theorem op2' (C : Cx Z a0 y by0 ml rt κ) (pc' : Nat) {x z : Int64} (v : Int64) (hd : decode by0 pc = .ok (.lsub, 1)) (hpc : pc + 1 = pc') (hv : x - z = v) (k : Go l R Z ws h0 Q κ S h pc' Ls (.long v :: st) ce sl) : Go l R Z ws h0 Q κ S h pc Ls (.long z :: .long x :: st) ce sl := by
  subst hpc
  subst hv
  obtain ⟨p, e, s, m, args, below, meth, c⟩ := κ
  intro T locs X N eT I
  obtain ⟨hx, hby, hml, hown, hnm, hret, hlk, hZ⟩ := C
  obtain ⟨s₂, o, hs, r⟩ := k T _ X N eT I
  exact ⟨s₂, o, XT.lsub X.here hx rfl (hb hby hd) rfl hs, r⟩
theorem ou1' (C : Cx Z a0 y by0 ml rt κ) (pc' : Nat) {x z : Int64} (v : Int64) (hd : decode by0 pc = .ok (.land, 1)) (hpc : pc + 1 = pc') (hv : x &&& z = v) (k : Go l R Z ws h0 Q κ S h pc' Ls (.long v :: st) ce sl) : Go l R Z ws h0 Q κ S h pc Ls (.long z :: .long x :: st) ce sl := by
  subst hpc
  subst hv
  obtain ⟨p, e, s, m, args, below, meth, c⟩ := κ
  intro T locs X N eT I
  obtain ⟨hx, hby, hml, hown, hnm, hret, hlk, hZ⟩ := C
  obtain ⟨s₂, o, hs, r⟩ := k T _ X N eT I
  exact ⟨s₂, o, XT.land X.here hx rfl (hb hby hd) rfl hs, r⟩
theorem oq2' (C : Cx Z a0 y by0 ml rt κ) (pc' : Nat) {x : Int64} {z : Int32} (v : Int64) (hd : decode by0 pc = .ok (.lshr, 1)) (hpc : pc + 1 = pc') (hv : x >>> (z.toInt64 &&& 63) = v) (k : Go l R Z ws h0 Q κ S h pc' Ls (.long v :: st) ce sl) : Go l R Z ws h0 Q κ S h pc Ls (.int z :: .long x :: st) ce sl := by
  subst hpc
  subst hv
  obtain ⟨p, e, s, m, args, below, meth, c⟩ := κ
  intro T locs X N eT I
  obtain ⟨hx, hby, hml, hown, hnm, hret, hlk, hZ⟩ := C
  obtain ⟨s₂, o, hs, r⟩ := k T _ X N eT I
  exact ⟨s₂, o, XT.lshr X.here hx rfl (hb hby hd) rfl hs, r⟩
theorem od2' (C : Cx Z a0 y by0 ml rt κ) (pc' : Nat) {x : Int64} {z : Int32} (v : Int64) (hd : decode by0 pc = .ok (.lushr, 1)) (hpc : pc + 1 = pc') (hv : XT.ushrL x z = v) (k : Go l R Z ws h0 Q κ S h pc' Ls (.long v :: st) ce sl) : Go l R Z ws h0 Q κ S h pc Ls (.int z :: .long x :: st) ce sl := by
  subst hpc
  subst hv
  obtain ⟨p, e, s, m, args, below, meth, c⟩ := κ
  intro T locs X N eT I
  obtain ⟨hx, hby, hml, hown, hnm, hret, hlk, hZ⟩ := C
  obtain ⟨s₂, o, hs, r⟩ := k T _ X N eT I
  exact ⟨s₂, o, XT.lushr X.here hx rfl (hb hby hd) rfl hs, r⟩
theorem og2' (C : Cx Z a0 y by0 ml rt κ) (pc' : Nat) {x : Int64} (v : Int64) (hd : decode by0 pc = .ok (.lneg, 1)) (hpc : pc + 1 = pc') (hv : -x = v) (k : Go l R Z ws h0 Q κ S h pc' Ls (.long v :: st) ce sl) : Go l R Z ws h0 Q κ S h pc Ls (.long x :: st) ce sl := by
  subst hpc
  subst hv
  obtain ⟨p, e, s, m, args, below, meth, c⟩ := κ
  intro T locs X N eT I
  obtain ⟨hx, hby, hml, hown, hnm, hret, hlk, hZ⟩ := C
  obtain ⟨s₂, o, hs, r⟩ := k T _ X N eT I
  exact ⟨s₂, o, XT.lneg X.here hx rfl (hb hby hd) rfl hs, r⟩
theorem oh1' (C : Cx Z a0 y by0 ml rt κ) (pc' : Nat) {x z : Int64} (v : Int32) (hd : decode by0 pc = .ok (.lcmp, 1)) (hpc : pc + 1 = pc') (hv : XT.cmpL x z = v) (k : Go l R Z ws h0 Q κ S h pc' Ls (.int v :: st) ce sl) : Go l R Z ws h0 Q κ S h pc Ls (.long z :: .long x :: st) ce sl := by
  subst hpc
  subst hv
  obtain ⟨p, e, s, m, args, below, meth, c⟩ := κ
  intro T locs X N eT I
  obtain ⟨hx, hby, hml, hown, hnm, hret, hlk, hZ⟩ := C
  obtain ⟨s₂, o, hs, r⟩ := k T _ X N eT I
  exact ⟨s₂, o, XT.lcmp X.here hx rfl (hb hby hd) rfl hs, r⟩
theorem of1' (C : Cx Z a0 y by0 ml rt κ) (pc' : Nat) {x : Value} (hd : decode by0 pc = .ok (.dup, 1)) (hpc : pc + 1 = pc') (hc : x.category = 1) (k : Go l R Z ws h0 Q κ S h pc' Ls (x :: x :: st) ce sl) : Go l R Z ws h0 Q κ S h pc Ls (x :: st) ce sl := by
  subst hpc
  obtain ⟨p, e, s, m, args, below, meth, c⟩ := κ
  intro T locs X N eT I
  obtain ⟨hx, hby, hml, hown, hnm, hret, hlk, hZ⟩ := C
  obtain ⟨s₂, o, hs, r⟩ := k T _ X N eT I
  exact ⟨s₂, o, XS.dup X.here hx rfl (hb hby hd) rfl hc hs, r⟩
theorem oe2' (C : Cx Z a0 y by0 ml rt κ) (pc' : Nat) {x z : Value} (hd : decode by0 pc = .ok (.dup2, 1)) (hpc : pc + 1 = pc') (hc : x.category = 1) (hc' : z.category = 1) (k : Go l R Z ws h0 Q κ S h pc' Ls (x :: z :: x :: z :: st) ce sl) : Go l R Z ws h0 Q κ S h pc Ls (x :: z :: st) ce sl := by
  subst hpc
  obtain ⟨p, e, s, m, args, below, meth, c⟩ := κ
  intro T locs X N eT I
  obtain ⟨hx, hby, hml, hown, hnm, hret, hlk, hZ⟩ := C
  obtain ⟨s₂, o, hs, r⟩ := k T _ X N eT I
  exact ⟨s₂, o, XT.dup2 X.here hx rfl (hb hby hd) rfl hc hc' hs, r⟩
theorem oh' (C : Cx Z a0 y by0 ml rt κ) (pc' : Nat) {j : Fin 4} {x : Int32} {Ls' : Array Slot} (hd : decode by0 pc = .ok (.istore_n j, 1)) (hpc : pc + 1 = pc') (hl : storeLocals Ls j.val (.int x) = some Ls') (k : Go l R Z ws h0 Q κ S h pc' Ls' st ce sl) : Go l R Z ws h0 Q κ S h pc Ls (.int x :: st) ce sl := by
  subst hpc
  obtain ⟨p, e, s, m, args, below, meth, c⟩ := κ
  intro T locs X N eT I
  obtain ⟨hx, hby, hml, hown, hnm, hret, hlk, hZ⟩ := C
  obtain ⟨s₂, o, hs, r⟩ := k T _ X N eT I
  exact ⟨s₂, o, XS.istoreN X.here hx rfl (hb hby hd) rfl hl hs, r⟩
theorem om2' (C : Cx Z a0 y by0 ml rt κ) (pc' : Nat) {j : Fin 4} {x : Int64} {Ls' : Array Slot} (hd : decode by0 pc = .ok (.lstore_n j, 1)) (hpc : pc + 1 = pc') (hl : storeLocals Ls j.val (.long x) = some Ls') (k : Go l R Z ws h0 Q κ S h pc' Ls' st ce sl) : Go l R Z ws h0 Q κ S h pc Ls (.long x :: st) ce sl := by
  subst hpc
  obtain ⟨p, e, s, m, args, below, meth, c⟩ := κ
  intro T locs X N eT I
  obtain ⟨hx, hby, hml, hown, hnm, hret, hlk, hZ⟩ := C
  obtain ⟨s₂, o, hs, r⟩ := k T _ X N eT I
  exact ⟨s₂, o, XT.lstoreN X.here hx rfl (hb hby hd) rfl hl hs, r⟩
theorem of' (C : Cx Z a0 y by0 ml rt κ) (pc' : Nat) {j : Nat} {x : Int32} {Ls' : Array Slot} (hd : decode by0 pc = .ok (.istore j, 2)) (hpc : pc + 2 = pc') (hl : storeLocals Ls j (.int x) = some Ls') (k : Go l R Z ws h0 Q κ S h pc' Ls' st ce sl) : Go l R Z ws h0 Q κ S h pc Ls (.int x :: st) ce sl := by
  subst hpc
  obtain ⟨p, e, s, m, args, below, meth, c⟩ := κ
  intro T locs X N eT I
  obtain ⟨hx, hby, hml, hown, hnm, hret, hlk, hZ⟩ := C
  obtain ⟨s₂, o, hs, r⟩ := k T _ X N eT I
  exact ⟨s₂, o, XS.istore X.here hx rfl (hb hby hd) rfl hl hs, r⟩
theorem ob2' (C : Cx Z a0 y by0 ml rt κ) (pc' : Nat) {j : Nat} {x : Int64} {Ls' : Array Slot} (hd : decode by0 pc = .ok (.lstore j, 2)) (hpc : pc + 2 = pc') (hl : storeLocals Ls j (.long x) = some Ls') (k : Go l R Z ws h0 Q κ S h pc' Ls' st ce sl) : Go l R Z ws h0 Q κ S h pc Ls (.long x :: st) ce sl := by
  subst hpc
  obtain ⟨p, e, s, m, args, below, meth, c⟩ := κ
  intro T locs X N eT I
  obtain ⟨hx, hby, hml, hown, hnm, hret, hlk, hZ⟩ := C
  obtain ⟨s₂, o, hs, r⟩ := k T _ X N eT I
  exact ⟨s₂, o, XT.lstore X.here hx rfl (hb hby hd) rfl hl hs, r⟩
theorem oj1' (C : Cx Z a0 y by0 ml rt κ) (pc' : Nat) {j : Fin 4} {x : Value} {Ls' : Array Slot} (hd : decode by0 pc = .ok (.astore_n j, 1)) (hpc : pc + 1 = pc') (hv : x.isRef = true) (hl : storeLocals Ls j.val x = some Ls') (k : Go l R Z ws h0 Q κ S h pc' Ls' st ce sl) : Go l R Z ws h0 Q κ S h pc Ls (x :: st) ce sl := by
  subst hpc
  obtain ⟨p, e, s, m, args, below, meth, c⟩ := κ
  intro T locs X N eT I
  obtain ⟨hx, hby, hml, hown, hnm, hret, hlk, hZ⟩ := C
  obtain ⟨s₂, o, hs, r⟩ := k T _ X N eT I
  exact ⟨s₂, o, XS.astoreN X.here hx rfl (hb hby hd) rfl hv hl hs, r⟩
theorem oy' (C : Cx Z a0 y by0 ml rt κ) (pc' : Nat) {j : Nat} {x : Value} {Ls' : Array Slot} (hd : decode by0 pc = .ok (.astore j, 2)) (hpc : pc + 2 = pc') (hv : x.isRef = true) (hl : storeLocals Ls j x = some Ls') (k : Go l R Z ws h0 Q κ S h pc' Ls' st ce sl) : Go l R Z ws h0 Q κ S h pc Ls (x :: st) ce sl := by
  subst hpc
  obtain ⟨p, e, s, m, args, below, meth, c⟩ := κ
  intro T locs X N eT I
  obtain ⟨hx, hby, hml, hown, hnm, hret, hlk, hZ⟩ := C
  obtain ⟨s₂, o, hs, r⟩ := k T _ X N eT I
  exact ⟨s₂, o, XS.astore X.here hx rfl (hb hby hd) rfl hv hl hs, r⟩
theorem oo' (C : Cx Z a0 y by0 ml rt κ) (pc' : Nat) {j : Nat} {i : Int} {x : Int32} {Ls' : Array Slot} (v : Int32) (hd : decode by0 pc = .ok (.iinc j i, 3)) (hpc : pc + 3 = pc') (hv : Int32.ofInt i = v) (hg : Ls[j]? = some (.val (.int x))) (hl : storeLocals Ls j (.int (x + v)) = some Ls') (k : Go l R Z ws h0 Q κ S h pc' Ls' st ce sl) : Go l R Z ws h0 Q κ S h pc Ls st ce sl := by
  subst hpc
  obtain ⟨p, e, s, m, args, below, meth, c⟩ := κ
  intro T locs X N eT I
  obtain ⟨hx, hby, hml, hown, hnm, hret, hlk, hZ⟩ := C
  obtain ⟨s₂, o, hs, r⟩ := k T _ X N eT I
  exact ⟨s₂, o, XT.iincV X.here hx rfl v (hb hby hd) hv hg hl hs, r⟩
theorem or' (C : Cx Z a0 y by0 ml rt κ) (pc' : Nat) {o : Int} {cd : ClassFile.Cond} {x : Int32} (hd : decode by0 pc = .ok (.ifCond cd o, 3)) (hpc : pc + 3 = pc') (hc : if_icmp.holds cd x 0 = false) (k : Go l R Z ws h0 Q κ S h pc' Ls st ce sl) : Go l R Z ws h0 Q κ S h pc Ls (.int x :: st) ce sl := by
  subst hpc
  obtain ⟨p, e, s, m, args, below, meth, c⟩ := κ
  intro T locs X N eT I
  obtain ⟨hx, hby, hml, hown, hnm, hret, hlk, hZ⟩ := C
  obtain ⟨s₂, o, hs, r⟩ := k T _ X N eT I
  exact ⟨s₂, o, XS.ifNo X.here hx rfl (hb hby hd) rfl ((if0 _ _).trans hc) hs, r⟩
theorem ol' (C : Cx Z a0 y by0 ml rt κ) (pc' : Nat) {o : Int} {cd : ClassFile.Cond} {x z : Int32} (hd : decode by0 pc = .ok (.if_icmp cd o, 3)) (hpc : pc + 3 = pc') (hc : if_icmp.holds cd x z = false) (k : Go l R Z ws h0 Q κ S h pc' Ls st ce sl) : Go l R Z ws h0 Q κ S h pc Ls (.int z :: .int x :: st) ce sl := by
  subst hpc
  obtain ⟨p, e, s, m, args, below, meth, c⟩ := κ
  intro T locs X N eT I
  obtain ⟨hx, hby, hml, hown, hnm, hret, hlk, hZ⟩ := C
  obtain ⟨s₂, o, hs, r⟩ := k T _ X N eT I
  exact ⟨s₂, o, XS.icmpNo X.here hx rfl (hb hby hd) rfl hc hs, r⟩
theorem oc2' (C : Cx Z a0 y by0 ml rt κ) (pc' : Nat) {ix : Nat} {v : Int32} (hd : decode by0 pc = .ok (.ldc ix, 2)) (hpc : pc + 2 = pc') (w : (Cond.constant y.cls ix v).before a0 Z = true) (k : Go l R Z ws h0 Q κ S h pc' Ls (.int v :: st) ce sl) : Go l R Z ws h0 Q κ S h pc Ls st ce sl := by
  subst hpc
  obtain ⟨p, e, s, m, args, below, meth, c⟩ := κ
  intro T locs X N eT I
  obtain ⟨hx, hby, hml, hown, hnm, hret, hlk, hZ⟩ := C
  obtain ⟨s₂, o, hs, r⟩ := k T _ X N eT I
  exact ⟨s₂, o, X.ldcInt hx hown (mvT hZ w) (g := mkF m pc Ls st) rfl (hb hby hd) _ hs, r⟩
theorem ov' (C : Cx Z a0 y by0 ml rt κ) (pc' : Nat) {ix : Nat} {v : Int32} (hd : decode by0 pc = .ok (.ldc_w ix, 3)) (hpc : pc + 3 = pc') (w : (Cond.constant y.cls ix v).before a0 Z = true) (k : Go l R Z ws h0 Q κ S h pc' Ls (.int v :: st) ce sl) : Go l R Z ws h0 Q κ S h pc Ls st ce sl := by
  subst hpc
  obtain ⟨p, e, s, m, args, below, meth, c⟩ := κ
  intro T locs X N eT I
  obtain ⟨hx, hby, hml, hown, hnm, hret, hlk, hZ⟩ := C
  obtain ⟨s₂, o, hs, r⟩ := k T _ X N eT I
  exact ⟨s₂, o, X.ldcwInt hx hown (mvT hZ w) (g := mkF m pc Ls st) rfl (hb hby hd) _ hs, r⟩
theorem oq1' (C : Cx Z a0 y by0 ml rt κ) (pc' : Nat) {ix : Nat} {v : Int64} (hd : decode by0 pc = .ok (.ldc2_w ix, 3)) (hpc : pc + 3 = pc') (w : (Cond.constantLong y.cls ix v).before a0 Z = true) (k : Go l R Z ws h0 Q κ S h pc' Ls (.long v :: st) ce sl) : Go l R Z ws h0 Q κ S h pc Ls st ce sl := by
  subst hpc
  obtain ⟨p, e, s, m, args, below, meth, c⟩ := κ
  intro T locs X N eT I
  obtain ⟨hx, hby, hml, hown, hnm, hret, hlk, hZ⟩ := C
  obtain ⟨s₂, o, hs, r⟩ := k T _ X N eT I
  exact ⟨s₂, o, X.ldc2Long hx hown (mvT hZ w) (g := mkF m pc Ls st) rfl (hb hby hd) _ hs, r⟩
theorem oa1' (C : Cx Z a0 y by0 ml rt κ) (pc' : Nat) {a : Addr} {kc : ClassId} {n j : Int32} {vs : List Value} {d v : Value} (hd : decode by0 pc = .ok (.iaload, 1)) (hpc : pc + 1 = pc') (F : Arv Z h a kc .int n vs d) (hj : ¬ j < 0 ∧ j < n) (hv : vs.getD j.toNatClampNeg d = v) (k : Go l R Z ws h0 Q κ S h pc' Ls (v :: st) ce sl) : Go l R Z ws h0 Q κ S h pc Ls (.int j :: .ref a :: st) ce sl := by
  subst hpc
  obtain ⟨p, e, s, m, args, below, meth, c⟩ := κ
  intro T locs X N eT I
  obtain ⟨hx, hby, hml, hown, hnm, hret, hlk, hZ⟩ := C
  obtain ⟨s₂, o, hs, r⟩ := k T _ X N eT I
  obtain ⟨_, A, q1, S1, q3, H, G⟩ := F
  exact ⟨s₂, o, X.iaload hx (j := j) (by rw [eT]; exact A.1) (State.isArrayOf_alike hZ.alike A.2.1) A.2.2 (inb_of S1 hj) (H.at (inb_of S1 hj) hv) (g := mkF m pc Ls (.int j :: .ref a :: st)) rfl rfl (hb hby hd) _ hs, r⟩
theorem of2' (C : Cx Z a0 y by0 ml rt κ) (pc' : Nat) {a : Addr} {kc : ClassId} {ty : FieldType} {n j : Int32} {vs : List Value} {d v : Value} (hd : decode by0 pc = .ok (.aaload, 1)) (hpc : pc + 1 = pc') (F : Arv Z h a kc ty n vs d) (ht : ty.isReference = true) (hj : ¬ j < 0 ∧ j < n) (hv : vs.getD j.toNatClampNeg d = v) (k : Go l R Z ws h0 Q κ S h pc' Ls (v :: st) ce sl) : Go l R Z ws h0 Q κ S h pc Ls (.int j :: .ref a :: st) ce sl := by
  subst hpc
  obtain ⟨p, e, s, m, args, below, meth, c⟩ := κ
  intro T locs X N eT I
  obtain ⟨hx, hby, hml, hown, hnm, hret, hlk, hZ⟩ := C
  obtain ⟨s₂, o, hs, r⟩ := k T _ X N eT I
  obtain ⟨_, A, q1, S1, q3, H, G⟩ := F
  exact ⟨s₂, o, X.aaload hx (j := j) (by rw [eT]; exact A.1) (State.isArrayOf_alike hZ.alike A.2.1) ht A.2.2 (inb_of S1 hj) (H.at (inb_of S1 hj) hv) (g := mkF m pc Ls (.int j :: .ref a :: st)) rfl rfl (hb hby hd) _ hs, r⟩
theorem oe1' (C : Cx Z a0 y by0 ml rt κ) (pc' : Nat) {a : Addr} {kc : ClassId} {ty : FieldType} {n : Int32} {vs : List Value} {d : Value} (hd : decode by0 pc = .ok (.arraylength, 1)) (hpc : pc + 1 = pc') (F : Arv Z h a kc ty n vs d) (k : Go l R Z ws h0 Q κ S h pc' Ls (.int n :: st) ce sl) : Go l R Z ws h0 Q κ S h pc Ls (.ref a :: st) ce sl := by
  subst hpc
  obtain ⟨p, e, s, m, args, below, meth, c⟩ := κ
  intro T locs X N eT I
  obtain ⟨hx, hby, hml, hown, hnm, hret, hlk, hZ⟩ := C
  obtain ⟨s₂, o, hs, r⟩ := k T _ X N eT I
  obtain ⟨cl, A, q1, S1, q3, H, G⟩ := F
  rw [← len_of S1 q3] at hs
  exact ⟨s₂, o, X.arraylength hx (by rw [eT]; exact A.1) (State.isArrayOf_alike hZ.alike A.2.1) (g := mkF m pc Ls (.ref a :: st)) rfl rfl (hb hby hd) _ hs, r⟩
theorem os' (C : Cx Z a0 y by0 ml rt κ) {o : Int} {pc' : Nat} (hd : decode by0 pc = .ok (.goto o, 3))  (ho : 0 ≤ (pc : Int) + o) (hp : ((pc : Int) + o).toNat = pc') (k : Go l R Z ws h0 Q κ S h pc' Ls st ce sl) : Go l R Z ws h0 Q κ S h pc Ls st ce sl := by
  obtain ⟨p, e, s, m, args, below, meth, c⟩ := κ
  intro T locs X N eT I
  obtain ⟨hx, hby, hml, hown, hnm, hret, hlk, hZ⟩ := C
  obtain ⟨s₂, o, hs, r⟩ := k T _ X N eT I
  exact ⟨s₂, o, XS.goto X.here hx rfl (pc0 := pc) rfl (hb hby hd) ho hp hs, r⟩
theorem on' (C : Cx Z a0 y by0 ml rt κ) {o : Int} {cd : ClassFile.Cond} {x : Int32} {pc' : Nat} (hd : decode by0 pc = .ok (.ifCond cd o, 3)) (hc : if_icmp.holds cd x 0 = true) (ho : 0 ≤ (pc : Int) + o) (hp : ((pc : Int) + o).toNat = pc') (k : Go l R Z ws h0 Q κ S h pc' Ls st ce sl) : Go l R Z ws h0 Q κ S h pc Ls (.int x :: st) ce sl := by
  obtain ⟨p, e, s, m, args, below, meth, c⟩ := κ
  intro T locs X N eT I
  obtain ⟨hx, hby, hml, hown, hnm, hret, hlk, hZ⟩ := C
  obtain ⟨s₂, o, hs, r⟩ := k T _ X N eT I
  exact ⟨s₂, o, XS.ifYes X.here hx rfl (pc0 := pc) rfl (hb hby hd) rfl ((if0 _ _).trans hc) ho hp hs, r⟩
theorem oj' (C : Cx Z a0 y by0 ml rt κ) {o : Int} {cd : ClassFile.Cond} {x z : Int32} {pc' : Nat} (hd : decode by0 pc = .ok (.if_icmp cd o, 3)) (hc : if_icmp.holds cd x z = true) (ho : 0 ≤ (pc : Int) + o) (hp : ((pc : Int) + o).toNat = pc') (k : Go l R Z ws h0 Q κ S h pc' Ls st ce sl) : Go l R Z ws h0 Q κ S h pc Ls (.int z :: .int x :: st) ce sl := by
  obtain ⟨p, e, s, m, args, below, meth, c⟩ := κ
  intro T locs X N eT I
  obtain ⟨hx, hby, hml, hown, hnm, hret, hlk, hZ⟩ := C
  obtain ⟨s₂, o, hs, r⟩ := k T _ X N eT I
  exact ⟨s₂, o, XS.icmpYes X.here hx rfl (pc0 := pc) rfl (hb hby hd) rfl hc ho hp hs, r⟩
theorem op1' (C : Cx Z a0 y by0 ml rt κ) {o : Int} {cd : ACond} {x z : Value} {b : Bool} {pc' : Nat} (hd : decode by0 pc = .ok (.if_acmp cd o, 3)) (h1 : x.isRef = true) (h2 : z.isRef = true) (hq : decide (x = z) = b) (ho : 0 ≤ (pc : Int) + o) (hp : pc' = if acV cd b = true then ((pc : Int) + o).toNat else pc + 3) (k : Go l R Z ws h0 Q κ S h pc' Ls st ce sl) : Go l R Z ws h0 Q κ S h pc Ls (z :: x :: st) ce sl := by
  obtain ⟨p, e, s, m, args, below, meth, c⟩ := κ
  intro T locs X N eT I
  obtain ⟨hx, hby, hml, hown, hnm, hret, hlk, hZ⟩ := C
  obtain ⟨s₂, o, hs, r⟩ := k T _ X N eT I
  exact ⟨s₂, o, Jvm.RoadKit.acmp (g := mkF m pc Ls (z :: x :: st)) X hx rfl h1 h2 (pc0 := pc) rfl (hb hby hd) rfl hq ho hp hs, r⟩
theorem og' (C : Cx Z a0 y by0 ml rt κ) (pc' : Nat) {ix : Nat} {R0 O n d : String} {a : Addr} {v : Value} (hd : decode by0 pc = .ok (.getfield ix, 3)) (hpc : pc + 3 = pc') (w : (Cond.fieldLink y.cls ix R0 n d).before a0 Z = true) (via : Via Z R0 O n d) (F : Fld Z h a O n d v) (k : Go l R Z ws h0 Q κ S h pc' Ls (v :: st) ce sl) : Go l R Z ws h0 Q κ S h pc Ls (.ref a :: st) ce sl := by
  subst hpc
  obtain ⟨p, e, s, m, args, below, meth, c⟩ := κ
  intro T locs X N eT I
  obtain ⟨hx, hby, hml, hown, hnm, hret, hlk, hZ⟩ := C
  obtain ⟨T', X', e', st'⟩ := getF X hx hZ hown (host := "") (Or.inl w) via eT F (g := mkF m pc Ls (.ref a :: st)) rfl rfl (hb hby hd)
  obtain ⟨s₂, o, hs, r⟩ := k T' _ X' N e' I
  exact ⟨s₂, o, st' _ hs, r⟩
theorem ot1' (C : Cx Z a0 y by0 ml rt κ) (pc' : Nat) {ix : Nat} {O n d : String} {v : Value} (hd : decode by0 pc = .ok (.getstatic ix, 3)) (hpc : pc + 3 = pc') (w : (Cond.fieldLink y.cls ix O n d).before a0 Z = true) (F : Sta Z Z.heap O n d v) (k : Go l R Z ws h0 Q κ S h pc' Ls (v :: st) ce sl) : Go l R Z ws h0 Q κ S h pc Ls st ce sl := by
  subst hpc
  obtain ⟨p, e, s, m, args, below, meth, c⟩ := κ
  intro T locs X N eT I
  obtain ⟨hx, hby, hml, hown, hnm, hret, hlk, hZ⟩ := C
  obtain ⟨T', X', e', st'⟩ := getS2 X hx hZ hown (host := "") (Or.inl w) Via.refl eT (F.ext I.1) (g := mkF m pc Ls st) rfl (hb hby hd)
  obtain ⟨s₂, o, hs, r⟩ := k T' _ X' N e' I
  exact ⟨s₂, o, st' _ hs, r⟩
theorem os1' (C : Cx Z a0 y by0 ml rt κ) (pc' : Nat) {ix : Nat} {K : String} {a : Addr} (hd : decode by0 pc = .ok (.checkcast ix, 3)) (hpc : pc + 3 = pc') (w : (Cond.classLink y.cls ix K).before a0 Z = true) (F : Ins Z h a K true) (k : Go l R Z ws h0 Q κ S h pc' Ls (.ref a :: st) ce sl) : Go l R Z ws h0 Q κ S h pc Ls (.ref a :: st) ce sl := by
  subst hpc
  obtain ⟨p, e, s, m, args, below, meth, c⟩ := κ
  intro T locs X N eT I
  obtain ⟨hx, hby, hml, hown, hnm, hret, hlk, hZ⟩ := C
  obtain ⟨T', X', e', st'⟩ := castY X hx hZ hown w eT F (g := mkF m pc Ls (.ref a :: st)) rfl rfl (hb hby hd)
  obtain ⟨s₂, o, hs, r⟩ := k T' _ X' N e' I
  exact ⟨s₂, o, st' _ hs, r⟩
theorem oz1' (C : Cx Z a0 y by0 ml rt κ) (pc' : Nat) {ix : Nat} {K : String} {a : Addr} (hd : decode by0 pc = .ok (.instanceof ix, 3)) (hpc : pc + 3 = pc') (w : (Cond.classLink y.cls ix K).before a0 Z = true) (F : Ins Z h a K true) (k : Go l R Z ws h0 Q κ S h pc' Ls (.int 1 :: st) ce sl) : Go l R Z ws h0 Q κ S h pc Ls (.ref a :: st) ce sl := by
  subst hpc
  obtain ⟨p, e, s, m, args, below, meth, c⟩ := κ
  intro T locs X N eT I
  obtain ⟨hx, hby, hml, hown, hnm, hret, hlk, hZ⟩ := C
  obtain ⟨T', X', e', st'⟩ := instY X hx hZ hown w eT F (g := mkF m pc Ls (.ref a :: st)) rfl rfl (hb hby hd)
  obtain ⟨s₂, o, hs, r⟩ := k T' _ X' N e' I
  exact ⟨s₂, o, st' _ hs, r⟩
theorem oa2' (C : Cx Z a0 y by0 ml rt κ) (pc' : Nat) {ix : Nat} {a : Addr} {W : Nat} (hd : decode by0 pc = .ok (.invokespecial ix, 3)) (hpc : pc + 3 = pc') (w1 : (Cond.methodLink y.cls ix Lib.objectInit).before a0 Z = true) (w2 : (Cond.instanceMethod Lib.objectInit).before a0 Z = true) (w3 : (Cond.code Lib.objectInit ⟨#[0xb1]⟩ 1 none).before a0 Z = true) (hls : Ls.size = ml) (hf : 1 ≤ R.frames) (hW : (st.map fun v => v.category).sum ≤ W) (hlo : W + 12 ≤ R.locals) (k : Go l R Z ws h0 Q κ S h pc' Ls st ce sl) : Go l R Z ws h0 Q κ S h pc Ls (.ref a :: st) ce sl := by
  subst hpc
  obtain ⟨p, e, s, m, args, below, meth, c⟩ := κ
  intro T locs X N eT I
  obtain ⟨hx, hby, hml, hown, hnm, hret, hlk, hZ⟩ := C
  obtain ⟨T', X', e', st'⟩ := initO X hx hZ hown w1 w2 w3 eT (g := mkF m pc Ls (.ref a :: st)) rfl (hls.trans hml.symm) rfl (hb hby hd) hf (W := W) (by show 2 * 0 + _ ≤ _; rw [Nat.mul_zero, Nat.zero_add]; exact hW) hlo
  obtain ⟨s₂, o, hs, r⟩ := k T' _ X' N e' I
  exact ⟨s₂, o, st' _ hs, r⟩
theorem oi1' (C : Cx Z a0 y by0 ml rt κ) (pc' : Nat) {ix kk : Nat} {R0 O n d Cn : String} {ty : FieldType} {a : Addr} {v old : Value} (hd : decode by0 pc = .ok (.putfield ix, 3)) (hpc : pc + 3 = pc') (w : (Cond.fieldLink y.cls ix R0 n d).before a0 Z = true) (via : Via Z R0 O n d) (F : Fld Z h a O n d old) (E : Exa Z h a Cn) (L : (Cond.lays Cn O n d).before a0 Z = true ∨ ((Cond.laysFinal Cn O n d).before a0 Z = true ∧ y.cls = O ∧ y.name = "<init>")) (wi : (Cond.instantiable Cn kk).before a0 Z = true) (hty : parseFieldDescriptor d = some ty) (hn : narrow ty v = v) (hf : fits ty v = true) (ha : a ∈ S) (k : ∀ h', Wr h h' a (RoadKit.slotOf Z O n d) v → Go l R Z ws h0 Q κ S h' pc' Ls st ce sl) : Go l R Z ws h0 Q κ S h pc Ls (v :: .ref a :: st) ce sl := by
  subst hpc
  obtain ⟨p, e, s, m, args, below, meth, c⟩ := κ
  intro T locs X N eT I
  obtain ⟨hx, hby, hml, hown, hnm, hret, hlk, hZ⟩ := C
  obtain ⟨T', h', X', e', W, st'⟩ := putF X hx hZ hown (host := "") (Or.inl w) via eT F E (L.imp id fun q => ⟨q.1, q.2.1, hnm.trans q.2.2⟩) wi hty hn hf (g := mkF m pc Ls (v :: .ref a :: st)) rfl rfl (hb hby hd)
  obtain ⟨s₂, o, hs, r⟩ := (k h' W) T' _ X' (fr_snoc N (I.2.2 _ ha).2.1) e' (I.wr W ha)
  exact ⟨s₂, o, st' _ hs, r⟩
theorem ok1' (C : Cx Z a0 y by0 ml rt κ) (pc' ce' sl' : Nat) {ix n : Nat} {Cn : String} (hd : decode by0 pc = .ok (.new ix, 3)) (hce : ce + 1 = ce') (hsl' : sl + n = sl') (hpc : pc + 3 = pc') (w : (Cond.classLink y.cls ix Cn).before a0 Z = true) (wi : (Cond.instantiable Cn n).before a0 Z = true) (wz : (Cond.initialized Cn).before a0 Z = true) (hc : ce + 1 ≤ R.cells) (hsl : sl + n ≤ R.slots) (k : ∀ (a : Addr) h', a = h.size → Ext h h' → Exa Z h' a Cn → (∀ {O nm d : String} {ty : FieldType}, Laid Z a0 Cn O nm d → parseFieldDescriptor d = some ty → Fld Z h' a O nm d (defaultValue ty)) → Go l R Z ws h0 Q κ (a :: S) h' pc' Ls (.ref a :: st) ce' sl') : Go l R Z ws h0 Q κ S h pc Ls st ce sl := by
  subst hpc hce hsl'
  obtain ⟨p, e, s, m, args, below, meth, c⟩ := κ
  intro T locs X N eT I
  obtain ⟨hx, hby, hml, hown, hnm, hret, hlk, hZ⟩ := C
  obtain ⟨T', h', X', e', E, A, D, -, st'⟩ := newO X hx hZ hown w wi wz eT (g := mkF m pc Ls st) rfl (hb hby hd) hc hsl
  obtain ⟨s₂, o, hs, r⟩ := (k _ h' rfl E A @D) T' _ X' N e' (I.new E A.lt)
  exact ⟨s₂, o, st' _ hs, r⟩
theorem oy1' (C : Cx Z a0 y by0 ml rt κ) (pc' ce' sl' : Nat) {aty : ArrayType} {ty : FieldType} {n : Int32} {cap : Nat} (hd : decode by0 pc = .ok (.newarray aty, 2)) (hce : ce + 1 = ce') (hsl' : sl + cap = sl') (hpc : pc + 2 = pc') (hty : newarray.typeOf aty = ty) (w : (Cond.arrayClass ty).before a0 Z = true) (hn : ¬ n < 0) (hcap : n.toNatClampNeg ≤ cap) (hbig : cap * 8 ≤ 536870912) (hc : ce + 1 ≤ R.cells) (hsl : sl + cap ≤ R.slots) (k : ∀ (a : Addr) h' kc, a = h.size → Ext h h' → Arv Z h' a kc ty n (List.replicate n.toNatClampNeg (defaultValue ty)) (defaultValue ty) → Exa Z h' a ("[" ++ ty.toString) → Go l R Z ws h0 Q κ (a :: S) h' pc' Ls (.ref a :: st) ce' sl') : Go l R Z ws h0 Q κ S h pc Ls (.int n :: st) ce sl := by
  subst hpc hce hsl'
  subst hty
  obtain ⟨p, e, s, m, args, below, meth, c⟩ := κ
  intro T locs X N eT I
  obtain ⟨hx, hby, hml, hown, hnm, hret, hlk, hZ⟩ := C
  obtain ⟨T', h', kc, X', e', E, A, EX, st'⟩ := newPE X hx hZ w eT (g := mkF m pc Ls (.int n :: st)) rfl (hb hby hd) rfl hn hcap hbig hc hsl rfl
  have V := (Arv.new A hn).pad (vs' := List.replicate n.toNatClampNeg (defaultValue (newarray.typeOf aty))) (pad_rep [] (defaultValue (newarray.typeOf aty)) n.toNatClampNeg)
  obtain ⟨s₂, o, hs, r⟩ := (k _ h' kc rfl E V EX) T' _ X' N e' (I.new E A.lt)
  exact ⟨s₂, o, st' _ hs, r⟩
theorem oi2' (C : Cx Z a0 y by0 ml rt κ) (pc' ce' sl' : Nat) {ix W cap : Nat} {a : Addr} {kc : ClassId} {ty : FieldType} {n : Int32} {vs : List Value} {d : Value} {ad : String} (hd : decode by0 pc = .ok (.invokevirtual ix, 3)) (hce : ce + 1 = ce') (hsl' : sl + cap = sl') (hpc : pc + 3 = pc') (w1 : (Cond.methodLink y.cls ix ⟨ad, "clone", "()Ljava/lang/Object;"⟩).before a0 Z = true) (w2 : (Cond.sameMethod ad "java/lang/Object" "clone" "()Ljava/lang/Object;").before a0 Z = true) (w3 : (Cond.native ⟨"java/lang/Object", "clone", "()Ljava/lang/Object;"⟩).before a0 Z = true) (w4 : (Cond.instanceMethod ⟨"java/lang/Object", "clone", "()Ljava/lang/Object;"⟩).before a0 Z = true) (w5 : (Cond.selects ad ⟨ad, "clone", "()Ljava/lang/Object;"⟩ ⟨"java/lang/Object", "clone", "()Ljava/lang/Object;"⟩).before a0 Z = true) (w6 : (Cond.castable ad "java/lang/Cloneable").before a0 Z = true) (F : Arv Z h a kc ty n vs d) (E0 : Exa Z h a ad) (hls : Ls.size = ml) (hf : 1 ≤ R.frames) (hW : (st.map fun v => v.category).sum ≤ W) (hlo : W + 14 ≤ R.locals) (hcap : n.toNatClampNeg ≤ cap) (hc : ce + 1 ≤ R.cells) (hsl : sl + cap ≤ R.slots) (k : ∀ (b : Addr) h', b = h.size → Ext h h' → Arv Z h' b kc ty n vs d → Exa Z h' b ad → Go l R Z ws h0 Q κ (b :: S) h' pc' Ls (.ref b :: st) ce' sl') : Go l R Z ws h0 Q κ S h pc Ls (.ref a :: st) ce sl := by
  subst hpc hce hsl'
  obtain ⟨p, e, s, m, args, below, meth, c⟩ := κ
  intro T locs X N eT I
  obtain ⟨hx, hby, hml, hown, hnm, hret, hlk, hZ⟩ := C
  obtain ⟨cl, A, q1, S1, q3, H, G⟩ := F
  have FC : FitC Z cl := fitC_of A fun i hi v hv => by rw [H i hi] at hv; cases hv; exact G i hi
  obtain ⟨T', h', X', e', E, A', E', st'⟩ := cloneA X hx hZ hown w1 w2 w3 w4 w5 w6 eT A E0 FC (g := mkF m pc Ls (.ref a :: st)) rfl (hls.trans hml.symm) rfl (hb hby hd) hf (W := W) (by show 2 * 0 + _ ≤ _; rw [Nat.mul_zero, Nat.zero_add]; exact hW) hlo (by rw [S1]; exact hcap) hc hsl
  have V : Arv Z h' h.size kc ty n vs d := ⟨cloneOf cl, A', q1, S1, q3, H, G⟩
  obtain ⟨s₂, o, hs, r⟩ := (k _ h' rfl E V E') T' _ X' N e' (I.new E V.lt)
  exact ⟨s₂, o, st' _ hs, r⟩
theorem ov1' (C : Cx Z a0 y by0 ml rt κ) {x : Int32} {df : Int} {prs : Array (Int × Int)} {len : Nat} {a off : Int} {pc' : Nat} (hd : decode by0 pc = .ok (.lookupswitch df prs, len)) (hso : (prs.toList.zip (prs.toList.drop 1)).all (fun (a, next) => a.1 < next.1) = true) (hfi : prs.find? (·.1 == x.toInt) = some (a, off)) (ho : 0 ≤ (pc : Int) + off) (hp : ((pc : Int) + off).toNat = pc') (k : Go l R Z ws h0 Q κ S h pc' Ls st ce sl) : Go l R Z ws h0 Q κ S h pc Ls (.int x :: st) ce sl := by
  subst hp
  obtain ⟨p, e, s, m, args, below, meth, c⟩ := κ
  intro T locs X N eT I
  obtain ⟨hx, hby, hml, hown, hnm, hret, hlk, hZ⟩ := C
  obtain ⟨s₂, o, hs, r⟩ := k T _ X N eT I
  exact ⟨s₂, o, X.lookupswitchHit hx (g := mkF m pc Ls (.int x :: st)) rfl rfl (hb hby hd) hso hfi ho _ hs, r⟩
theorem on2' (C : Cx Z a0 y by0 ml rt κ) {x : Int32} {df : Int} {prs : Array (Int × Int)} {len : Nat} {pc' : Nat} (hd : decode by0 pc = .ok (.lookupswitch df prs, len)) (hso : (prs.toList.zip (prs.toList.drop 1)).all (fun (a, next) => a.1 < next.1) = true) (hfi : prs.find? (·.1 == x.toInt) = none) (ho : 0 ≤ (pc : Int) + df) (hp : ((pc : Int) + df).toNat = pc') (k : Go l R Z ws h0 Q κ S h pc' Ls st ce sl) : Go l R Z ws h0 Q κ S h pc Ls (.int x :: st) ce sl := by
  subst hp
  obtain ⟨p, e, s, m, args, below, meth, c⟩ := κ
  intro T locs X N eT I
  obtain ⟨hx, hby, hml, hown, hnm, hret, hlk, hZ⟩ := C
  obtain ⟨s₂, o, hs, r⟩ := k T _ X N eT I
  exact ⟨s₂, o, X.lookupswitchMiss hx (g := mkF m pc Ls (.int x :: st)) rfl rfl (hb hby hd) hso hfi ho _ hs, r⟩
theorem oo1' (C : Cx Z a0 y by0 ml rt κ) (pc' : Nat) {a : Addr} {kc : ClassId} {n j x : Int32} {vs : List Value} {d : Value} (i : Nat) (hd : decode by0 pc = .ok (.iastore, 1)) (hpc : pc + 1 = pc') (F : Arv Z h a kc .int n vs d) (hj : ¬ j < 0 ∧ j < n) (hi : j.toNatClampNeg = i) (hl : i < vs.length) (ha : a ∈ S) (k : ∀ h', Wr h h' a j.toNatClampNeg (.int x) → Arv Z h' a kc .int n (vs.set i (.int x)) d → Go l R Z ws h0 Q κ S h' pc' Ls st ce sl) : Go l R Z ws h0 Q κ S h pc Ls (.int x :: .int j :: .ref a :: st) ce sl := by
  subst hpc
  obtain ⟨p, e, s, m, args, below, meth, c⟩ := κ
  intro T locs X N eT I
  obtain ⟨hx, hby, hml, hown, hnm, hret, hlk, hZ⟩ := C
  obtain ⟨cl, A, q1, S1, q3, H, G⟩ := F
  obtain ⟨T', h', X', e', W, st'⟩ := stI X hx hZ eT A (inb_of S1 hj) (g := mkF m pc Ls (.int x :: .int j :: .ref a :: st)) rfl rfl (hb hby hd)
  have V := Arv.set A q1 S1 q3 H G rfl W i hi hl
  obtain ⟨s₂, o, hs, r⟩ := (k h' W V) T' _ X' (fr_snoc N (I.2.2 _ ha).2.1) e' (I.wr W ha)
  exact ⟨s₂, o, st' _ hs, r⟩
theorem og1' (k : Ext Z.heap h → h0.size ≤ h.size → Go l R Z ws h0 Q κ S h pc Ls st ce sl) : Go l R Z ws h0 Q κ S h pc Ls st ce sl := by
  obtain ⟨p, e, s, m, args, below, meth, c⟩ := κ
  intro T locs X N eT I
  exact k I.1 I.2.1.1 T locs X N eT I
theorem oi' (C : Cx Z a0 y by0 ml rt κ) (hd : decode by0 pc = .ok (.return_, 1)) (hrt : rt = none) (hc : ce ≤ R.cells) (hsl : sl ≤ R.slots) (hq : Q none h) : Go l R Z ws h0 Q κ S h pc Ls [] ce sl := by
  obtain ⟨p, e, s, m, args, below, meth, c⟩ := κ
  intro T locs X N eT I
  obtain ⟨hx, hby, hml, hown, hnm, hret, hlk, hZ⟩ := C
  obtain ⟨fs, hr, hrun, hended, hW, hsame⟩ := X.leave (v := none) (fun _ => rfl) hlk
  have hq' : Keep h0 (T.setFrames fs).heap ws ∧ Q (none) (T.setFrames fs).heap := by
    show Keep h0 T.heap ws ∧ Q _ T.heap
    rw [eT]; exact ⟨I.2.1, hq⟩
  exact ⟨_, _, X.returnOut hx (hret.trans hrt) (hb hby hd) hr, hrun, hended, _, _, rfl, ⟨hq'.1, hq'.2, N⟩, ⟨_, rfl⟩, hW, hsame.mono hc hsl⟩
theorem om1' (C : Cx Z a0 y by0 ml rt κ) {t : FieldType} {x z : Int32} (hd : decode by0 pc = .ok (.ireturn, 1)) (hrt : rt = some t) (ht : t = .boolean ∨ t = .byte ∨ t = .char ∨ t = .short) (hz : nar t x = z) (hc : ce ≤ R.cells) (hsl : sl ≤ R.slots) (hq : Q (some (.int z)) h) : Go l R Z ws h0 Q κ S h pc Ls (.int x :: st) ce sl := by
  subst hz
  obtain ⟨p, e, s, m, args, below, meth, c⟩ := κ
  intro T locs X N eT I
  obtain ⟨hx, hby, hml, hown, hnm, hret, hlk, hZ⟩ := C
  obtain ⟨fs, hr, hrun, hended, hW, hsame⟩ := X.leave (v := some (.int (nar t x))) (fun q => by rw [hret, hrt] at q; cases q) hlk
  have hq' : Keep h0 (T.setFrames fs).heap ws ∧ Q (some (.int (nar t x))) (T.setFrames fs).heap := by
    show Keep h0 T.heap ws ∧ Q _ T.heap
    rw [eT]; exact ⟨I.2.1, hq⟩
  exact ⟨_, _, retN X hx (hret.trans hrt) ht (hb hby hd) hr, hrun, hended, _, _, rfl, ⟨hq'.1, hq'.2, N⟩, ⟨_, rfl⟩, hW, hsame.mono hc hsl⟩
theorem op' (C : Cx Z a0 y by0 ml rt κ) {x : Int32} (hd : decode by0 pc = .ok (.ireturn, 1)) (hrt : rt = some .int) (hc : ce ≤ R.cells) (hsl : sl ≤ R.slots) (hq : Q (some (.int x)) h) : Go l R Z ws h0 Q κ S h pc Ls (.int x :: st) ce sl := by
  obtain ⟨p, e, s, m, args, below, meth, c⟩ := κ
  intro T locs X N eT I
  obtain ⟨hx, hby, hml, hown, hnm, hret, hlk, hZ⟩ := C
  obtain ⟨fs, hr, hrun, hended, hW, hsame⟩ := X.leave (v := some (.int x)) (fun q => by rw [hret, hrt] at q; cases q) hlk
  have hq' : Keep h0 (T.setFrames fs).heap ws ∧ Q (some (.int x)) (T.setFrames fs).heap := by
    show Keep h0 T.heap ws ∧ Q _ T.heap
    rw [eT]; exact ⟨I.2.1, hq⟩
  exact ⟨_, _, retOut X hx (hret.trans hrt) rfl (Or.inl ⟨rfl, Or.inl rfl, _, rfl⟩) (hb hby hd) hr, hrun, hended, _, _, rfl, ⟨hq'.1, hq'.2, N⟩, ⟨_, rfl⟩, hW, hsame.mono hc hsl⟩
theorem ob1' (C : Cx Z a0 y by0 ml rt κ) {v : Value} {t : FieldType} (hd : decode by0 pc = .ok (.areturn, 1)) (hrt : rt = some t) (ht : t.isReference = true) (hv : v.isRef = true) (hc : ce ≤ R.cells) (hsl : sl ≤ R.slots) (hq : Q (some v) h) : Go l R Z ws h0 Q κ S h pc Ls (v :: st) ce sl := by
  obtain ⟨p, e, s, m, args, below, meth, c⟩ := κ
  intro T locs X N eT I
  obtain ⟨hx, hby, hml, hown, hnm, hret, hlk, hZ⟩ := C
  obtain ⟨fs, hr, hrun, hended, hW, hsame⟩ := X.leave (v := some v) (fun q => by rw [hret, hrt] at q; cases q) hlk
  have hq' : Keep h0 (T.setFrames fs).heap ws ∧ Q (some v) (T.setFrames fs).heap := by
    show Keep h0 T.heap ws ∧ Q _ T.heap
    rw [eT]; exact ⟨I.2.1, hq⟩
  have hn : narrow t v = v := by cases t <;> first | (cases ht; done) | (cases v <;> first | rfl | cases hv)
  exact ⟨_, _, retOut X hx (hret.trans hrt) hn (Or.inr (Or.inr (Or.inr (Or.inr ⟨rfl, ht, hv⟩)))) (hb hby hd) hr, hrun, hended, _, _, rfl, ⟨hq'.1, hq'.2, N⟩, ⟨_, rfl⟩, hW, hsame.mono hc hsl⟩
theorem oc1' (C : Cx Z a0 y by0 ml rt κ) {z : MethodName} {fr lo cc ss : Nat} {ws' : List Addr} {Qz : Option Value → Heap → Prop} {ps : List FieldType} {rr : Option FieldType} {argsL : List Value} {ix W : Nat} (hd : decode by0 pc = .ok (.invokestatic ix, 3)) {bz : ByteArray} {mlz : Nat} {rtz : Option FieldType} (w1 : (Cond.methodLink y.cls ix z).before a0 Z = true) (w2 : (Cond.static z).before a0 Z = true) (wz : (Cond.initialized z.cls).before a0 Z = true) (wc : (Cond.code z bz mlz rtz).before a0 Z = true) (hy : z.cls ≠ "java/lang/invoke/MethodHandle" ∧ z.cls ≠ "java/lang/invoke/VarHandle") (hps : parseMethodDescriptor z.desc = some ⟨ps, rr⟩) (hM : Py l Z z fr lo cc ss argsL.toArray h ws' Qz) (hlen : argsL.length = ps.length) (hW : (st.map fun v => v.category).sum ≤ W) (hls : Ls.size = ml) (hnn : fr ≤ R.frames ∧ W + lo ≤ R.locals ∧ ce + cc ≤ R.cells ∧ sl + ss ≤ R.slots) (hws : ∀ x ∈ ws', x ∈ S) (k : ∀ v h', Keep h h' ws' → Qz v h' → ∃ bs, (∀ b ∈ bs, h.size ≤ b ∧ b < h'.size) ∧ Go l R Z ws h0 Q κ (bs ++ S) h' (pc + 3) Ls (v.toList ++ st) (ce + cc) (sl + ss)) : Go l R Z ws h0 Q κ S h pc Ls (argsL.reverse ++ st) ce sl := by
  obtain ⟨p, e, s, m, args, below, meth, c⟩ := κ
  intro T locs X N eT I
  obtain ⟨hx, hby, hml, hown, hnm, hret, hlk, hZ⟩ := C
  obtain ⟨hf, hlo, hc, hsl⟩ := hnn
  have hO := fun x hx => (⟨(I.2.2 x (hws x hx)).1, (I.2.2 x (hws x hx)).2.1⟩ : x < h.size ∧ Z.heap.size ≤ x)
  have hB := hM I.1 hO p e R below s args 3 W hZ hf hlo
  obtain ⟨v, _, ⟨T', L', k', n'⟩, -, X', ⟨Lc, hQ, l', y', z'⟩, st'⟩ := Jvm.LawKit.callS X hx hown (mvT hZ w1) (mvT hZ w2) (mvT hZ wz) (mvT hZ wc) hy hB (g := mkF m pc Ls (argsL.reverse ++ st)) rfl (hls.trans hml.symm) (argsL := argsL) (rest := st) (lenOf hps hlen) rfl (by show 2 * 0 + _ ≤ _; rw [Nat.mul_zero, Nat.zero_add]; exact hW) (hb hby hd) (fun _ _ => ⟨rfl, eT, hc, hsl⟩)
  dsimp only [Pt.U, Pt.locs, Pt.cells, Pt.slots] at X' l' y' z' st' hQ
  subst l' y' z'
  obtain ⟨K, hQ, N'⟩ := hQ
  have NN := Fr.app N N'
  obtain ⟨bs, hbs, kk⟩ := k v T'.heap K hQ
  obtain ⟨s₂, o, hs, r⟩ := kk T' _ X' NN rfl (I.add (I.keep K hws) hbs)
  exact ⟨s₂, o, st' _ hs, r⟩
theorem ol1' (C : Cx Z a0 y by0 ml rt κ) {z : MethodName} {fr lo cc ss : Nat} {ws' : List Addr} {Qz : Option Value → Heap → Prop} {ps : List FieldType} {rr : Option FieldType} {argsL : List Value} {ix W : Nat} {a : Addr} (hd : decode by0 pc = .ok (.invokespecial ix, 3)) {bz : ByteArray} {mlz : Nat} (hin : z.name = "<init>") (w1 : (Cond.methodLink y.cls ix z).before a0 Z = true) (w2 : (Cond.instanceMethod z).before a0 Z = true) (wc : (Cond.code z bz mlz none).before a0 Z = true) (hy : z.cls ≠ "java/lang/invoke/MethodHandle" ∧ z.cls ≠ "java/lang/invoke/VarHandle") (hps : parseMethodDescriptor z.desc = some ⟨ps, rr⟩) (hM : Py l Z z fr lo cc ss (.ref a :: argsL).toArray h ws' Qz) (hlen : argsL.length = ps.length) (hW : (st.map fun v => v.category).sum ≤ W) (hls : Ls.size = ml) (hnn : fr ≤ R.frames ∧ W + lo ≤ R.locals ∧ ce + cc ≤ R.cells ∧ sl + ss ≤ R.slots) (hws : ∀ x ∈ ws', x ∈ S) (k : ∀ v h', Keep h h' ws' → Qz v h' → ∃ bs, (∀ b ∈ bs, h.size ≤ b ∧ b < h'.size) ∧ Go l R Z ws h0 Q κ (bs ++ S) h' (pc + 3) Ls (v.toList ++ st) (ce + cc) (sl + ss)) : Go l R Z ws h0 Q κ S h pc Ls (argsL.reverse ++ .ref a :: st) ce sl := by
  obtain ⟨p, e, s, m, args, below, meth, c⟩ := κ
  intro T locs X N eT I
  obtain ⟨hx, hby, hml, hown, hnm, hret, hlk, hZ⟩ := C
  obtain ⟨hf, hlo, hc, hsl⟩ := hnn
  have hO := fun x hx => (⟨(I.2.2 x (hws x hx)).1, (I.2.2 x (hws x hx)).2.1⟩ : x < h.size ∧ Z.heap.size ≤ x)
  have hB := hM I.1 hO p e R below s args 3 W hZ hf hlo
  obtain ⟨v, _, ⟨T', L', k', n'⟩, -, X', ⟨Lc, hQ, l', y', z'⟩, st'⟩ := X.specialBack hx hin hown (mvT hZ w1) (mvT hZ w2) (mvT hZ wc) hy hB (g := mkF m pc Ls (argsL.reverse ++ Value.ref a :: st)) rfl (hls.trans hml.symm) (Steps.refl _) (a := a) (argsL := argsL) (rest := st) (lenOf hps hlen) rfl (by show 2 * 0 + _ ≤ _; rw [Nat.mul_zero, Nat.zero_add]; exact hW) (hb hby hd) (fun _ _ => ⟨rfl, eT, hc, hsl⟩)
  dsimp only [Pt.U, Pt.locs, Pt.cells, Pt.slots] at X' l' y' z' st' hQ
  subst l' y' z'
  obtain ⟨K, hQ, N'⟩ := hQ
  have NN := Fr.app N N'
  obtain ⟨bs, hbs, kk⟩ := k v T'.heap K hQ
  obtain ⟨s₂, o, hs, r⟩ := kk T' _ X' NN rfl (I.add (I.keep K hws) hbs)
  exact ⟨s₂, o, st'.trans hs, r⟩
theorem oq' (C : Cx Z a0 y by0 ml rt κ) {z : MethodName} {fr lo cc ss : Nat} {ws' : List Addr} {Qz : Option Value → Heap → Prop} {ps : List FieldType} {rr : Option FieldType} {argsL : List Value} {ix W : Nat} {a : Addr} (hd : decode by0 pc = .ok (.invokevirtual ix, 3)) {y1 : MethodName} {Cn : String} (w1 : (Cond.methodLink y.cls ix y1).before a0 Z = true) (w2 : (Cond.declares y1).before a0 Z = true) (nf : ∀ (s : State), Z.Warmed39 s.vm → NotFace s y1) (w3 : (Cond.selects Cn y1 z).before a0 Z = true) (w4 : (Cond.instanceMethod z).before a0 Z = true) (EX : Exa Z h a Cn) (hy : y1.cls ≠ "java/lang/invoke/MethodHandle" ∧ y1.cls ≠ "java/lang/invoke/VarHandle") (hps : parseMethodDescriptor y1.desc = some ⟨ps, rr⟩) (hM : Py l Z z fr lo cc ss (.ref a :: argsL).toArray h ws' Qz) (hlen : argsL.length = ps.length) (hW : (st.map fun v => v.category).sum ≤ W) (hls : Ls.size = ml) (hnn : fr ≤ R.frames ∧ W + lo ≤ R.locals ∧ ce + cc ≤ R.cells ∧ sl + ss ≤ R.slots) (hws : ∀ x ∈ ws', x ∈ S) (k : ∀ v h', Keep h h' ws' → Qz v h' → ∃ bs, (∀ b ∈ bs, h.size ≤ b ∧ b < h'.size) ∧ Go l R Z ws h0 Q κ (bs ++ S) h' (pc + 3) Ls (v.toList ++ st) (ce + cc) (sl + ss)) : Go l R Z ws h0 Q κ S h pc Ls (argsL.reverse ++ .ref a :: st) ce sl := by
  obtain ⟨p, e, s, m, args, below, meth, c⟩ := κ
  intro T locs X N eT I
  obtain ⟨hx, hby, hml, hown, hnm, hret, hlk, hZ⟩ := C
  obtain ⟨hf, hlo, hc, hsl⟩ := hnn
  have hO := fun x hx => (⟨(I.2.2 x (hws x hx)).1, (I.2.2 x (hws x hx)).2.1⟩ : x < h.size ∧ Z.heap.size ≤ x)
  have hB := hM I.1 hO p e R below s args 3 W hZ hf hlo
  obtain ⟨v, _, ⟨T', L', k', n'⟩, -, X', ⟨Lc, hQ, l', y', z'⟩, st'⟩ := (let ⟨cq, kq, qa, qb, qc⟩ := isOf hZ eT EX; X.virtualBack hx hown (mvT hZ w1) (mvT hZ w2) (nf _ hZ) (mvT hZ w3) (mvT hZ w4) hy hB qa qc (g := mkF m pc Ls (argsL.reverse ++ Value.ref a :: st)) rfl (hls.trans hml.symm) (Steps.refl _) (argsL := argsL) (rest := st) (lenOf hps hlen) rfl (by show 2 * 0 + _ ≤ _; rw [Nat.mul_zero, Nat.zero_add]; exact hW) (hb hby hd) (fun _ _ => ⟨rfl, eT, hc, hsl⟩))
  dsimp only [Pt.U, Pt.locs, Pt.cells, Pt.slots] at X' l' y' z' st' hQ
  subst l' y' z'
  obtain ⟨K, hQ, N'⟩ := hQ
  have NN := Fr.app N N'
  obtain ⟨bs, hbs, kk⟩ := k v T'.heap K hQ
  obtain ⟨s₂, o, hs, r⟩ := kk T' _ X' NN rfl (I.add (I.keep K hws) hbs)
  exact ⟨s₂, o, st'.trans hs, r⟩
theorem oj2' (C : Cx Z a0 y by0 ml rt κ) (pc' : Nat) {ix W : Nat} {a b : Addr} {kc kc' : ClassId} {ty : FieldType} {z z' sp dp nn : Int32} {vs vd us vr : List Value} {dv dd : Value} (hd : decode by0 pc = .ok (.invokestatic ix, 3)) (hpc : pc + 3 = pc') (w1 : (Cond.methodLink y.cls ix Jvm.Stand.acN).before a0 Z = true) (w2 : (Cond.native Jvm.Stand.acN).before a0 Z = true) (w3 : (Cond.static Jvm.Stand.acN).before a0 Z = true) (w4 : (Cond.initialized "java/lang/System").before a0 Z = true) (A : Arv Z h a kc ty z vs dv) (B : Arv Z h b kc' ty z' vd dd) (hty : refKind ty = false) (h1 : ¬ sp < 0) (h2 : ¬ dp < 0) (h3 : ¬ nn < 0) (h4 : sp.toNatClampNeg + nn.toNatClampNeg ≤ z.toNatClampNeg) (h5 : dp.toNatClampNeg + nn.toNatClampNeg ≤ z'.toNatClampNeg) (hus : us = (List.range nn.toNatClampNeg).map fun i => vs.getD (sp.toNatClampNeg + i) dv) (hl : dp.toNatClampNeg + nn.toNatClampNeg ≤ vd.length) (hvr : vd.take dp.toNatClampNeg ++ us ++ vd.drop (dp.toNatClampNeg + nn.toNatClampNeg) = vr) (hls : Ls.size = ml) (hf : 1 ≤ R.frames) (hW : (st.map fun v => v.category).sum ≤ W) (hlo : W + (nativeFrameWords "java/lang/System" "arraycopy" 5 + 11) ≤ R.locals) (hb' : b ∈ S) (k : ∀ h', Keep h h' [b] → Arv Z h' b kc' ty z' vr dd → Go l R Z ws h0 Q κ S h' pc' Ls st ce sl) : Go l R Z ws h0 Q κ S h pc Ls (.int nn :: .int dp :: .ref b :: .int sp :: .ref a :: st) ce sl := by
  subst hvr hpc
  obtain ⟨p, e, s, m, args, below, meth, c⟩ := κ
  intro T locs X N eT I
  obtain ⟨hx, hby, hml, hown, hnm, hret, hlk, hZ⟩ := C
  obtain ⟨T', h', L', X', e', N', K, V, st'⟩ := cpA X hx hZ hown w1 w2 w3 w4 eT A B (Or.inl ⟨rfl, hty⟩) h1 h2 h3 h4 h5 hus hl N (I.2.2 _ hb').2.1 (g := mkF m pc Ls (.int nn :: .int dp :: .ref b :: .int sp :: .ref a :: st)) rfl (hls.trans hml.symm) rfl (hb hby hd) hf (W := W) (by show 2 * 0 + _ ≤ _; rw [Nat.mul_zero, Nat.zero_add]; exact hW) hlo
  have hws : ∀ x ∈ [b], x ∈ S := memsS hb' mems0
  obtain ⟨s₂, o, hs, r⟩ := k h' K V T' _ X' N' e' (I.keep K hws)
  exact ⟨s₂, o, st' _ hs, r⟩
end StepsN

theorem sto_arv {Z : State} {h : Heap} {a b : Addr} {kc : ClassId} {ty : FieldType} {n : Int32} {vs : List Value} {d : Value} {C : String} (F : Arv Z h a kc ty n vs d) (O : Ovr Z kc C) (I : Ins Z h b C true) : Sto Z h a (.ref b) := by
  obtain ⟨c, A, q, -⟩ := F
  exact Sto.ofV A q O I
theorem and_small (x m : Int32) (hm : 0 ≤ m.toInt) : ¬ (x &&& m) < 0 ∧ ¬ m < (x &&& m) := by
  have h := c_and x m hm
  constructor
  · rw [Int32.lt_iff_toInt_lt]; have e : (0 : Int32).toInt = 0 := rfl; omega
  · rw [Int32.lt_iff_toInt_lt]; omega
/-- a char: 0 to 65535 -/
def Chr (c : Int32) : Prop := ¬ c < 0 ∧ ¬ (65535 : Int32) < c
theorem Chr.nar {c : Int32} (h : Chr c) : nar .char c = c := by
  have e := c_i2c c
  have r := h
  unfold Chr at r
  rw [Int32.lt_iff_toInt_lt, Int32.lt_iff_toInt_lt] at r
  have e0 : (0 : Int32).toInt = 0 := rfl
  have e1 : (65535 : Int32).toInt = 65535 := rfl
  have q := rng32 c
  show c.toUInt32.toUInt16.toUInt32.toInt32 = c
  rw [← Int32.toInt_inj]
  omega
theorem Chr.i2c {c : Int32} (h : Chr c) : c.toUInt32.toUInt16.toUInt32.toInt32 = c := h.nar
theorem Chr.lat {c : Int32} (h0 : ¬ c < 0) (h1 : ¬ (255 : Int32) < c) : Chr c := ⟨h0, fun q => h1 (by rw [Int32.lt_iff_toInt_lt] at q ⊢; have e1 : (65535 : Int32).toInt = 65535 := rfl; have e2 : (255 : Int32).toInt = 255 := rfl; omega)⟩
theorem chr_and255 (x : Int32) : Chr (x &&& 255) := Chr.lat (and_small x 255 (by decide)).1 (and_small x 255 (by decide)).2
def lo8 (c : Int32) : Int32 := c.toInt8.toInt32
def hi8 (c : Int32) : Int32 := (c >>> ((8 : Int32) &&& 31)).toInt8.toInt32
theorem nar_byte (c : Int32) : nar .byte (c.toInt8.toInt32) = c.toInt8.toInt32 := by show c.toInt8.toInt32.toInt8.toInt32 = _; simp
theorem nar_lo8 (c : Int32) : nar .byte (lo8 c) = lo8 c := nar_byte c
theorem nar_hi8 (c : Int32) : nar .byte (hi8 c) = hi8 c := nar_byte _
theorem shr_0 (c : Int32) : c >>> ((0 : Int32) &&& 31) = c := by
  have h := c_ishr c 0 0 (by decide)
  rw [← Int32.toInt_inj, h]; simp
theorem lo8_and (c : Int32) : (lo8 c &&& 255).toInt = c.toInt % 256 := by
  have h := c_mask (lo8 c) 255 8 (by decide) (by decide)
  have q := c_i2b c
  have e : (lo8 c).toInt = c.toInt8.toInt32.toInt := rfl
  rw [h, e]
  have e2 : ((2 ^ 8 : Nat) : Int) = 256 := rfl
  rw [e2]; omega
theorem hi8_and {c : Int32} (hc : Chr c) : (hi8 c &&& 255).toInt = c.toInt / 256 := by
  have h := c_mask (hi8 c) 255 8 (by decide) (by decide)
  have q := c_i2b (c >>> ((8 : Int32) &&& 31))
  have s := c_ishr c 8 8 (by decide)
  have e : (hi8 c).toInt = (c >>> ((8 : Int32) &&& 31)).toInt8.toInt32.toInt := rfl
  obtain ⟨r1, r2⟩ := hc
  rw [Int32.lt_iff_toInt_lt] at r1 r2
  have e0 : (0 : Int32).toInt = 0 := rfl
  have e1 : (65535 : Int32).toInt = 65535 := rfl
  have e2 : ((2 ^ 8 : Nat) : Int) = 256 := rfl
  rw [h, e, e2]
  rw [e2] at s
  omega
theorem lo8_mask {c : Int32} (h0 : ¬ c < 0) (h1 : ¬ (255 : Int32) < c) : lo8 c &&& 255 = c := by
  have h := lo8_and c
  rw [Int32.lt_iff_toInt_lt] at h0 h1
  have e0 : (0 : Int32).toInt = 0 := rfl
  have e1 : (255 : Int32).toInt = 255 := rfl
  rw [← Int32.toInt_inj, h]; omega
theorem get16 {c : Int32} (hc : Chr c) : (((lo8 c &&& 255) <<< ((0 : Int32) &&& 31)) ||| ((hi8 c &&& 255) <<< ((8 : Int32) &&& 31))).toUInt32.toUInt16.toUInt32.toInt32 = c := by
  have a1 := lo8_and c
  have a2 := hi8_and hc
  have s1 := c_ishl (lo8 c &&& 255) 0 0 (by decide)
  have s2 := c_ishl (hi8 c &&& 255) 8 8 (by decide)
  have e8 : ((2 ^ 8 : Nat) : Int) = 256 := rfl
  have e00 : ((2 ^ 0 : Nat) : Int) = 1 := rfl
  rw [e00] at s1
  rw [e8] at s2
  have o := c_or' ((lo8 c &&& 255) <<< ((0 : Int32) &&& 31)) ((hi8 c &&& 255) <<< ((8 : Int32) &&& 31)) 8 (by decide) 256 rfl
  have z := c_i2c (((lo8 c &&& 255) <<< ((0 : Int32) &&& 31)) ||| ((hi8 c &&& 255) <<< ((8 : Int32) &&& 31)))
  obtain ⟨r1, r2⟩ := hc
  rw [Int32.lt_iff_toInt_lt] at r1 r2
  have e0 : (0 : Int32).toInt = 0 := rfl
  have e1 : (65535 : Int32).toInt = 65535 := rfl
  have t1 := rng32 ((lo8 c &&& 255) <<< ((0 : Int32) &&& 31))
  have t2 := rng32 ((hi8 c &&& 255) <<< ((8 : Int32) &&& 31))
  have t3 := rng32 (((lo8 c &&& 255) <<< ((0 : Int32) &&& 31)) ||| ((hi8 c &&& 255) <<< ((8 : Int32) &&& 31)))
  rw [← Int32.toInt_inj]
  have o' := o (by omega) (by omega) (by omega)
  omega

def uN (x : Int32) : Nat := x.toBitVec.toNat
theorem uN_lt (x : Int32) : uN x < 4294967296 := x.toBitVec.isLt
theorem uN_int (x : Int32) : (uN x : Int) = x.toInt % 4294967296 := by
  have h := x.toBitVec.isLt
  show (x.toBitVec.toNat : Int) = x.toBitVec.toInt % 4294967296
  rw [BitVec.toInt_eq_toNat_cond]; split <;> omega
theorem uN_inj {x y : Int32} (h : uN x = uN y) : x = y := Int32.toBitVec_inj.mp (BitVec.eq_of_toNat_eq h)
theorem uN_ne {x : Int32} (h : ¬ x = 0) : 0 < uN x := by
  rcases Nat.eq_zero_or_pos (uN x) with q | q
  · exact absurd (uN_inj (y := 0) q) h
  · exact q
theorem uN_ofNat {k : Nat} (h : k < 4294967296) : uN (Int32.ofNat k) = k := by
  show (BitVec.ofNat 32 k).toNat = k
  rw [BitVec.toNat_ofNat]; exact Nat.mod_eq_of_lt h
theorem ushr_uN (x q : Int32) (k : Nat) (hk : q.toBitVec.toNat % 32 = k) : uN (XT.ushr x q) = uN x / 2 ^ k := by
  have h1 : (q &&& 31).toBitVec.toNat = k := by
    show (q.toBitVec &&& (31 : Int32).toBitVec).toNat = _
    rw [BitVec.toNat_and, show (31 : Int32).toBitVec.toNat = 2 ^ 5 - 1 from by decide, Nat.and_two_pow_sub_one_eq_mod]; exact hk
  show (x.toBitVec >>> ((q &&& 31).toBitVec % 32)).toNat = x.toBitVec.toNat / 2 ^ k
  rw [BitVec.ushiftRight_eq', BitVec.toNat_ushiftRight, Nat.shiftRight_eq_div_pow, BitVec.toNat_umod, h1]; congr 2; exact Nat.mod_eq_of_lt (by show k < 32; omega)
theorem odd_part (n : Nat) (hn : 0 < n) : ∃ k m, n = 2 ^ k * (2 * m + 1) := by
  induction n using Nat.strongRecOn with
  | _ n ih =>
    by_cases h : n % 2 = 1
    · exact ⟨0, n / 2, by omega⟩
    · obtain ⟨k, m, e⟩ := ih (n / 2) (by omega) (by omega)
      refine ⟨k + 1, m, ?_⟩
      rw [Nat.pow_succ, Nat.mul_comm (2 ^ k) 2, Nat.mul_assoc, ← e]; omega
/-- t is the number of x's trailing zeros (x is not 0) -/
def Tz (x t : Int32) : Prop := ∃ k m : Nat, k < 32 ∧ t = Int32.ofNat k ∧ uN x = 2 ^ k * (2 * m + 1)
theorem tz_mask (x : Int32) (k m : Nat) (hk : k < 32) (e : uN x = 2 ^ k * (2 * m + 1)) : uN ((x ^^^ (-1 : Int32)) &&& (x - (1 : Int32))) = 2 ^ k - 1 := by
  have hp : 0 < 2 ^ k := Nat.two_pow_pos k
  have hx := uN_lt x
  have e1 : 2 ^ k * (2 * m + 1) = 2 ^ k * (2 * m) + 2 ^ k := by rw [Nat.mul_add, Nat.mul_one]
  have h1 : (x.toBitVec - (1 : Int32).toBitVec).toNat = 2 ^ k * (2 * m) + (2 ^ k - 1) := by
    rw [BitVec.toNat_sub]
    have e2 : x.toBitVec.toNat = 2 ^ k * (2 * m) + 2 ^ k := by rw [← e1]; exact e
    have e3 : (1 : Int32).toBitVec.toNat = 1 := by decide
    rw [e3, e2]
    have e4 : 2 ^ k * (2 * m) + 2 ^ k < 4294967296 := by rw [← e2]; exact hx
    generalize 2 ^ k * (2 * m) = A at *
    generalize 2 ^ k = B at *
    omega
  have hm1 : (-1 : Int32).toBitVec = BitVec.allOnes 32 := by decide
  have hb : ((x ^^^ (-1 : Int32)) &&& (x - (1 : Int32))).toBitVec = BitVec.ofNat 32 (2 ^ k - 1) := by
    show (x.toBitVec ^^^ (-1 : Int32).toBitVec) &&& (x.toBitVec - (1 : Int32).toBitVec) = _
    apply BitVec.eq_of_getLsbD_eq
    intro i hi
    rw [BitVec.getLsbD_and, BitVec.getLsbD_xor, hm1, BitVec.getLsbD_allOnes]
    have b1 : (x.toBitVec - (1 : Int32).toBitVec).getLsbD i = (2 ^ k * (2 * m) + (2 ^ k - 1)).testBit i := by rw [BitVec.getLsbD, h1]
    have b2 : x.toBitVec.getLsbD i = (2 ^ k * (2 * m + 1) + 0).testBit i := by rw [BitVec.getLsbD]; exact congrArg (fun n => Nat.testBit n i) e
    have b3 : (BitVec.ofNat 32 (2 ^ k - 1)).getLsbD i = decide (i < k) := by
      rw [BitVec.getLsbD_ofNat, Nat.testBit_two_pow_sub_one]; simp [hi]
    rw [b1, b2, b3, Nat.testBit_two_pow_mul_add (2 * m) (show 2 ^ k - 1 < 2 ^ k by omega), Nat.testBit_two_pow_mul_add (2 * m + 1) hp, Nat.testBit_two_pow_sub_one]
    by_cases c : i < k
    · simp [c, hi]
    · simp only [c, if_false, hi, decide_true, decide_false]
      generalize i - k = j
      cases j with
      | zero => simp
      | succ j =>
        have c1 : (2 * m + 1).testBit (j + 1) = m.testBit j := by rw [Nat.testBit_succ]; congr 1; omega
        have c2 : (2 * m).testBit (j + 1) = m.testBit j := by rw [Nat.testBit_succ]; congr 1; omega
        rw [c1, c2]; cases m.testBit j <;> rfl
  show ((x ^^^ (-1 : Int32)) &&& (x - (1 : Int32))).toBitVec.toNat = _
  rw [hb, BitVec.toNat_ofNat]
  apply Nat.mod_eq_of_lt
  have : 2 ^ k ≤ 2 ^ 31 := Nat.pow_le_pow_right (by decide) (by omega)
  omega
theorem tz_ex {x : Int32} (hx : ¬ x = 0) : ∃ k m : Nat, k < 32 ∧ uN x = 2 ^ k * (2 * m + 1) := by
  obtain ⟨k, m, e⟩ := odd_part (uN x) (uN_ne hx)
  refine ⟨k, m, ?_, e⟩
  rcases Nat.lt_or_ge k 32 with q | q
  · exact q
  · have h1 : 2 ^ 32 ≤ 2 ^ k := Nat.pow_le_pow_right (by decide) q
    have h2 : 2 ^ k * 1 ≤ 2 ^ k * (2 * m + 1) := Nat.mul_le_mul_left _ (by omega)
    have := uN_lt x
    omega
theorem ntz_cases {x : Int32} (hx : ¬ x = 0) : (((x ^^^ (-1 : Int32)) &&& (x - (1 : Int32))) = 0 ∧ Tz x 0) ∨ (((x ^^^ (-1 : Int32)) &&& (x - (1 : Int32))) = 1 ∧ Tz x 1) ∨ (((x ^^^ (-1 : Int32)) &&& (x - (1 : Int32))) = 3 ∧ Tz x 2) ∨ (((x ^^^ (-1 : Int32)) &&& (x - (1 : Int32))) = 7 ∧ Tz x 3) ∨ (((x ^^^ (-1 : Int32)) &&& (x - (1 : Int32))) = 15 ∧ Tz x 4) ∨ (((x ^^^ (-1 : Int32)) &&& (x - (1 : Int32))) = 31 ∧ Tz x 5) ∨ (((x ^^^ (-1 : Int32)) &&& (x - (1 : Int32))) = 63 ∧ Tz x 6) ∨ (((x ^^^ (-1 : Int32)) &&& (x - (1 : Int32))) = 127 ∧ Tz x 7) ∨ (((x ^^^ (-1 : Int32)) &&& (x - (1 : Int32))) = 255 ∧ Tz x 8) ∨ (((x ^^^ (-1 : Int32)) &&& (x - (1 : Int32))) = 511 ∧ Tz x 9) ∨ (((x ^^^ (-1 : Int32)) &&& (x - (1 : Int32))) = 1023 ∧ Tz x 10) ∨ (((x ^^^ (-1 : Int32)) &&& (x - (1 : Int32))) = 2047 ∧ Tz x 11) ∨ (((x ^^^ (-1 : Int32)) &&& (x - (1 : Int32))) = 4095 ∧ Tz x 12) ∨ (((x ^^^ (-1 : Int32)) &&& (x - (1 : Int32))) = 8191 ∧ Tz x 13) ∨ (((x ^^^ (-1 : Int32)) &&& (x - (1 : Int32))) = 16383 ∧ Tz x 14) ∨ (((x ^^^ (-1 : Int32)) &&& (x - (1 : Int32))) = 32767 ∧ Tz x 15) ∨ (((x ^^^ (-1 : Int32)) &&& (x - (1 : Int32))) = 65535 ∧ Tz x 16) ∨ (((x ^^^ (-1 : Int32)) &&& (x - (1 : Int32))) = 131071 ∧ Tz x 17) ∨ (((x ^^^ (-1 : Int32)) &&& (x - (1 : Int32))) = 262143 ∧ Tz x 18) ∨ (((x ^^^ (-1 : Int32)) &&& (x - (1 : Int32))) = 524287 ∧ Tz x 19) ∨ (((x ^^^ (-1 : Int32)) &&& (x - (1 : Int32))) = 1048575 ∧ Tz x 20) ∨ (((x ^^^ (-1 : Int32)) &&& (x - (1 : Int32))) = 2097151 ∧ Tz x 21) ∨ (((x ^^^ (-1 : Int32)) &&& (x - (1 : Int32))) = 4194303 ∧ Tz x 22) ∨ (((x ^^^ (-1 : Int32)) &&& (x - (1 : Int32))) = 8388607 ∧ Tz x 23) ∨ (((x ^^^ (-1 : Int32)) &&& (x - (1 : Int32))) = 16777215 ∧ Tz x 24) ∨ (((x ^^^ (-1 : Int32)) &&& (x - (1 : Int32))) = 33554431 ∧ Tz x 25) ∨ (((x ^^^ (-1 : Int32)) &&& (x - (1 : Int32))) = 67108863 ∧ Tz x 26) ∨ (((x ^^^ (-1 : Int32)) &&& (x - (1 : Int32))) = 134217727 ∧ Tz x 27) ∨ (((x ^^^ (-1 : Int32)) &&& (x - (1 : Int32))) = 268435455 ∧ Tz x 28) ∨ (((x ^^^ (-1 : Int32)) &&& (x - (1 : Int32))) = 536870911 ∧ Tz x 29) ∨ (((x ^^^ (-1 : Int32)) &&& (x - (1 : Int32))) = 1073741823 ∧ Tz x 30) ∨ (((x ^^^ (-1 : Int32)) &&& (x - (1 : Int32))) = 2147483647 ∧ Tz x 31) := by
  obtain ⟨k, m, hk, e⟩ := tz_ex hx
  have q := tz_mask x k m hk e
  rcases Nat.lt_or_ge k 1 with h | h
  · obtain rfl : k = 0 := by omega
    exact Or.inl ⟨uN_inj (q.trans (by decide)), ⟨0, m, hk, by decide, e⟩⟩
  rcases Nat.lt_or_ge k 2 with h | h
  · obtain rfl : k = 1 := by omega
    exact Or.inr (Or.inl ⟨uN_inj (q.trans (by decide)), ⟨1, m, hk, by decide, e⟩⟩)
  rcases Nat.lt_or_ge k 3 with h | h
  · obtain rfl : k = 2 := by omega
    exact Or.inr (Or.inr (Or.inl ⟨uN_inj (q.trans (by decide)), ⟨2, m, hk, by decide, e⟩⟩))
  rcases Nat.lt_or_ge k 4 with h | h
  · obtain rfl : k = 3 := by omega
    exact Or.inr (Or.inr (Or.inr (Or.inl ⟨uN_inj (q.trans (by decide)), ⟨3, m, hk, by decide, e⟩⟩)))
  rcases Nat.lt_or_ge k 5 with h | h
  · obtain rfl : k = 4 := by omega
    exact Or.inr (Or.inr (Or.inr (Or.inr (Or.inl ⟨uN_inj (q.trans (by decide)), ⟨4, m, hk, by decide, e⟩⟩))))
  rcases Nat.lt_or_ge k 6 with h | h
  · obtain rfl : k = 5 := by omega
    exact Or.inr (Or.inr (Or.inr (Or.inr (Or.inr (Or.inl ⟨uN_inj (q.trans (by decide)), ⟨5, m, hk, by decide, e⟩⟩)))))
  rcases Nat.lt_or_ge k 7 with h | h
  · obtain rfl : k = 6 := by omega
    exact Or.inr (Or.inr (Or.inr (Or.inr (Or.inr (Or.inr (Or.inl ⟨uN_inj (q.trans (by decide)), ⟨6, m, hk, by decide, e⟩⟩))))))
  rcases Nat.lt_or_ge k 8 with h | h
  · obtain rfl : k = 7 := by omega
    exact Or.inr (Or.inr (Or.inr (Or.inr (Or.inr (Or.inr (Or.inr (Or.inl ⟨uN_inj (q.trans (by decide)), ⟨7, m, hk, by decide, e⟩⟩)))))))
  rcases Nat.lt_or_ge k 9 with h | h
  · obtain rfl : k = 8 := by omega
    exact Or.inr (Or.inr (Or.inr (Or.inr (Or.inr (Or.inr (Or.inr (Or.inr (Or.inl ⟨uN_inj (q.trans (by decide)), ⟨8, m, hk, by decide, e⟩⟩))))))))
  rcases Nat.lt_or_ge k 10 with h | h
  · obtain rfl : k = 9 := by omega
    exact Or.inr (Or.inr (Or.inr (Or.inr (Or.inr (Or.inr (Or.inr (Or.inr (Or.inr (Or.inl ⟨uN_inj (q.trans (by decide)), ⟨9, m, hk, by decide, e⟩⟩)))))))))
  rcases Nat.lt_or_ge k 11 with h | h
  · obtain rfl : k = 10 := by omega
    exact Or.inr (Or.inr (Or.inr (Or.inr (Or.inr (Or.inr (Or.inr (Or.inr (Or.inr (Or.inr (Or.inl ⟨uN_inj (q.trans (by decide)), ⟨10, m, hk, by decide, e⟩⟩))))))))))
  rcases Nat.lt_or_ge k 12 with h | h
  · obtain rfl : k = 11 := by omega
    exact Or.inr (Or.inr (Or.inr (Or.inr (Or.inr (Or.inr (Or.inr (Or.inr (Or.inr (Or.inr (Or.inr (Or.inl ⟨uN_inj (q.trans (by decide)), ⟨11, m, hk, by decide, e⟩⟩)))))))))))
  rcases Nat.lt_or_ge k 13 with h | h
  · obtain rfl : k = 12 := by omega
    exact Or.inr (Or.inr (Or.inr (Or.inr (Or.inr (Or.inr (Or.inr (Or.inr (Or.inr (Or.inr (Or.inr (Or.inr (Or.inl ⟨uN_inj (q.trans (by decide)), ⟨12, m, hk, by decide, e⟩⟩))))))))))))
  rcases Nat.lt_or_ge k 14 with h | h
  · obtain rfl : k = 13 := by omega
    exact Or.inr (Or.inr (Or.inr (Or.inr (Or.inr (Or.inr (Or.inr (Or.inr (Or.inr (Or.inr (Or.inr (Or.inr (Or.inr (Or.inl ⟨uN_inj (q.trans (by decide)), ⟨13, m, hk, by decide, e⟩⟩)))))))))))))
  rcases Nat.lt_or_ge k 15 with h | h
  · obtain rfl : k = 14 := by omega
    exact Or.inr (Or.inr (Or.inr (Or.inr (Or.inr (Or.inr (Or.inr (Or.inr (Or.inr (Or.inr (Or.inr (Or.inr (Or.inr (Or.inr (Or.inl ⟨uN_inj (q.trans (by decide)), ⟨14, m, hk, by decide, e⟩⟩))))))))))))))
  rcases Nat.lt_or_ge k 16 with h | h
  · obtain rfl : k = 15 := by omega
    exact Or.inr (Or.inr (Or.inr (Or.inr (Or.inr (Or.inr (Or.inr (Or.inr (Or.inr (Or.inr (Or.inr (Or.inr (Or.inr (Or.inr (Or.inr (Or.inl ⟨uN_inj (q.trans (by decide)), ⟨15, m, hk, by decide, e⟩⟩)))))))))))))))
  rcases Nat.lt_or_ge k 17 with h | h
  · obtain rfl : k = 16 := by omega
    exact Or.inr (Or.inr (Or.inr (Or.inr (Or.inr (Or.inr (Or.inr (Or.inr (Or.inr (Or.inr (Or.inr (Or.inr (Or.inr (Or.inr (Or.inr (Or.inr (Or.inl ⟨uN_inj (q.trans (by decide)), ⟨16, m, hk, by decide, e⟩⟩))))))))))))))))
  rcases Nat.lt_or_ge k 18 with h | h
  · obtain rfl : k = 17 := by omega
    exact Or.inr (Or.inr (Or.inr (Or.inr (Or.inr (Or.inr (Or.inr (Or.inr (Or.inr (Or.inr (Or.inr (Or.inr (Or.inr (Or.inr (Or.inr (Or.inr (Or.inr (Or.inl ⟨uN_inj (q.trans (by decide)), ⟨17, m, hk, by decide, e⟩⟩)))))))))))))))))
  rcases Nat.lt_or_ge k 19 with h | h
  · obtain rfl : k = 18 := by omega
    exact Or.inr (Or.inr (Or.inr (Or.inr (Or.inr (Or.inr (Or.inr (Or.inr (Or.inr (Or.inr (Or.inr (Or.inr (Or.inr (Or.inr (Or.inr (Or.inr (Or.inr (Or.inr (Or.inl ⟨uN_inj (q.trans (by decide)), ⟨18, m, hk, by decide, e⟩⟩))))))))))))))))))
  rcases Nat.lt_or_ge k 20 with h | h
  · obtain rfl : k = 19 := by omega
    exact Or.inr (Or.inr (Or.inr (Or.inr (Or.inr (Or.inr (Or.inr (Or.inr (Or.inr (Or.inr (Or.inr (Or.inr (Or.inr (Or.inr (Or.inr (Or.inr (Or.inr (Or.inr (Or.inr (Or.inl ⟨uN_inj (q.trans (by decide)), ⟨19, m, hk, by decide, e⟩⟩)))))))))))))))))))
  rcases Nat.lt_or_ge k 21 with h | h
  · obtain rfl : k = 20 := by omega
    exact Or.inr (Or.inr (Or.inr (Or.inr (Or.inr (Or.inr (Or.inr (Or.inr (Or.inr (Or.inr (Or.inr (Or.inr (Or.inr (Or.inr (Or.inr (Or.inr (Or.inr (Or.inr (Or.inr (Or.inr (Or.inl ⟨uN_inj (q.trans (by decide)), ⟨20, m, hk, by decide, e⟩⟩))))))))))))))))))))
  rcases Nat.lt_or_ge k 22 with h | h
  · obtain rfl : k = 21 := by omega
    exact Or.inr (Or.inr (Or.inr (Or.inr (Or.inr (Or.inr (Or.inr (Or.inr (Or.inr (Or.inr (Or.inr (Or.inr (Or.inr (Or.inr (Or.inr (Or.inr (Or.inr (Or.inr (Or.inr (Or.inr (Or.inr (Or.inl ⟨uN_inj (q.trans (by decide)), ⟨21, m, hk, by decide, e⟩⟩)))))))))))))))))))))
  rcases Nat.lt_or_ge k 23 with h | h
  · obtain rfl : k = 22 := by omega
    exact Or.inr (Or.inr (Or.inr (Or.inr (Or.inr (Or.inr (Or.inr (Or.inr (Or.inr (Or.inr (Or.inr (Or.inr (Or.inr (Or.inr (Or.inr (Or.inr (Or.inr (Or.inr (Or.inr (Or.inr (Or.inr (Or.inr (Or.inl ⟨uN_inj (q.trans (by decide)), ⟨22, m, hk, by decide, e⟩⟩))))))))))))))))))))))
  rcases Nat.lt_or_ge k 24 with h | h
  · obtain rfl : k = 23 := by omega
    exact Or.inr (Or.inr (Or.inr (Or.inr (Or.inr (Or.inr (Or.inr (Or.inr (Or.inr (Or.inr (Or.inr (Or.inr (Or.inr (Or.inr (Or.inr (Or.inr (Or.inr (Or.inr (Or.inr (Or.inr (Or.inr (Or.inr (Or.inr (Or.inl ⟨uN_inj (q.trans (by decide)), ⟨23, m, hk, by decide, e⟩⟩)))))))))))))))))))))))
  rcases Nat.lt_or_ge k 25 with h | h
  · obtain rfl : k = 24 := by omega
    exact Or.inr (Or.inr (Or.inr (Or.inr (Or.inr (Or.inr (Or.inr (Or.inr (Or.inr (Or.inr (Or.inr (Or.inr (Or.inr (Or.inr (Or.inr (Or.inr (Or.inr (Or.inr (Or.inr (Or.inr (Or.inr (Or.inr (Or.inr (Or.inr (Or.inl ⟨uN_inj (q.trans (by decide)), ⟨24, m, hk, by decide, e⟩⟩))))))))))))))))))))))))
  rcases Nat.lt_or_ge k 26 with h | h
  · obtain rfl : k = 25 := by omega
    exact Or.inr (Or.inr (Or.inr (Or.inr (Or.inr (Or.inr (Or.inr (Or.inr (Or.inr (Or.inr (Or.inr (Or.inr (Or.inr (Or.inr (Or.inr (Or.inr (Or.inr (Or.inr (Or.inr (Or.inr (Or.inr (Or.inr (Or.inr (Or.inr (Or.inr (Or.inl ⟨uN_inj (q.trans (by decide)), ⟨25, m, hk, by decide, e⟩⟩)))))))))))))))))))))))))
  rcases Nat.lt_or_ge k 27 with h | h
  · obtain rfl : k = 26 := by omega
    exact Or.inr (Or.inr (Or.inr (Or.inr (Or.inr (Or.inr (Or.inr (Or.inr (Or.inr (Or.inr (Or.inr (Or.inr (Or.inr (Or.inr (Or.inr (Or.inr (Or.inr (Or.inr (Or.inr (Or.inr (Or.inr (Or.inr (Or.inr (Or.inr (Or.inr (Or.inr (Or.inl ⟨uN_inj (q.trans (by decide)), ⟨26, m, hk, by decide, e⟩⟩))))))))))))))))))))))))))
  rcases Nat.lt_or_ge k 28 with h | h
  · obtain rfl : k = 27 := by omega
    exact Or.inr (Or.inr (Or.inr (Or.inr (Or.inr (Or.inr (Or.inr (Or.inr (Or.inr (Or.inr (Or.inr (Or.inr (Or.inr (Or.inr (Or.inr (Or.inr (Or.inr (Or.inr (Or.inr (Or.inr (Or.inr (Or.inr (Or.inr (Or.inr (Or.inr (Or.inr (Or.inr (Or.inl ⟨uN_inj (q.trans (by decide)), ⟨27, m, hk, by decide, e⟩⟩)))))))))))))))))))))))))))
  rcases Nat.lt_or_ge k 29 with h | h
  · obtain rfl : k = 28 := by omega
    exact Or.inr (Or.inr (Or.inr (Or.inr (Or.inr (Or.inr (Or.inr (Or.inr (Or.inr (Or.inr (Or.inr (Or.inr (Or.inr (Or.inr (Or.inr (Or.inr (Or.inr (Or.inr (Or.inr (Or.inr (Or.inr (Or.inr (Or.inr (Or.inr (Or.inr (Or.inr (Or.inr (Or.inr (Or.inl ⟨uN_inj (q.trans (by decide)), ⟨28, m, hk, by decide, e⟩⟩))))))))))))))))))))))))))))
  rcases Nat.lt_or_ge k 30 with h | h
  · obtain rfl : k = 29 := by omega
    exact Or.inr (Or.inr (Or.inr (Or.inr (Or.inr (Or.inr (Or.inr (Or.inr (Or.inr (Or.inr (Or.inr (Or.inr (Or.inr (Or.inr (Or.inr (Or.inr (Or.inr (Or.inr (Or.inr (Or.inr (Or.inr (Or.inr (Or.inr (Or.inr (Or.inr (Or.inr (Or.inr (Or.inr (Or.inr (Or.inl ⟨uN_inj (q.trans (by decide)), ⟨29, m, hk, by decide, e⟩⟩)))))))))))))))))))))))))))))
  rcases Nat.lt_or_ge k 31 with h | h
  · obtain rfl : k = 30 := by omega
    exact Or.inr (Or.inr (Or.inr (Or.inr (Or.inr (Or.inr (Or.inr (Or.inr (Or.inr (Or.inr (Or.inr (Or.inr (Or.inr (Or.inr (Or.inr (Or.inr (Or.inr (Or.inr (Or.inr (Or.inr (Or.inr (Or.inr (Or.inr (Or.inr (Or.inr (Or.inr (Or.inr (Or.inr (Or.inr (Or.inr (Or.inl ⟨uN_inj (q.trans (by decide)), ⟨30, m, hk, by decide, e⟩⟩))))))))))))))))))))))))))))))
  rcases Nat.lt_or_ge k 32 with h | h
  · obtain rfl : k = 31 := by omega
    exact Or.inr (Or.inr (Or.inr (Or.inr (Or.inr (Or.inr (Or.inr (Or.inr (Or.inr (Or.inr (Or.inr (Or.inr (Or.inr (Or.inr (Or.inr (Or.inr (Or.inr (Or.inr (Or.inr (Or.inr (Or.inr (Or.inr (Or.inr (Or.inr (Or.inr (Or.inr (Or.inr (Or.inr (Or.inr (Or.inr (Or.inr (⟨uN_inj (q.trans (by decide)), ⟨31, m, hk, by decide, e⟩⟩)))))))))))))))))))))))))))))))
  omega
theorem Tz.nn {x t : Int32} (h : Tz x t) : ¬ t < 0 := by
  obtain ⟨k, m, hk, rfl, -⟩ := h
  have : ∀ k : Fin 32, ¬ Int32.ofNat k.val < 0 := by decide
  exact this ⟨k, hk⟩
theorem Tz.lt {x t : Int32} (h : Tz x t) : t < 32 := by
  obtain ⟨k, m, hk, rfl, -⟩ := h
  have : ∀ k : Fin 32, Int32.ofNat k.val < 32 := by decide
  exact this ⟨k, hk⟩
theorem ofN_mod {k : Nat} (hk : k < 32) : (Int32.ofNat k).toBitVec.toNat % 32 = k := by
  have := uN_ofNat (k := k) (by omega)
  show uN (Int32.ofNat k) % 32 = k
  rw [this]; omega
theorem Tz.odd {x t : Int32} (h : Tz x t) : uN (XT.ushr x t) % 2 = 1 := by
  obtain ⟨k, m, hk, rfl, e⟩ := h
  rw [ushr_uN x _ k (ofN_mod hk), e, Nat.mul_div_cancel_left _ (Nat.two_pow_pos k)]; omega
theorem odd_ne {x : Int32} (h : uN x % 2 = 1) : ¬ x = 0 := fun q => by subst q; exact absurd h (by decide)
theorem Tz.le {x t : Int32} (h : Tz x t) : uN (XT.ushr x t) ≤ uN x := by
  obtain ⟨k, m, hk, rfl, e⟩ := h
  rw [ushr_uN x _ k (ofN_mod hk)]; exact Nat.div_le_self _ _
theorem or_odd {a b : Int32} (h : uN b % 2 = 1) : uN (a ||| b) % 2 = 1 := by
  have q : uN (a ||| b) = uN a ||| uN b := BitVec.toNat_or _ _
  rw [q]
  have t := Nat.testBit_or (uN a) (uN b) 0
  simp only [Nat.testBit_zero, h, decide_true, Bool.or_true, decide_eq_true_eq] at t
  exact t
theorem ushl_0 (x : Int32) : x <<< ((0 : Int32) &&& 31) = x := by
  have h := c_ishl x 0 0 (by decide)
  have r1 := rng32 x
  have r2 := rng32 (x <<< ((0 : Int32) &&& 31))
  rw [← Int32.toInt_inj]
  have e : ((2 ^ 0 : Nat) : Int) = 1 := rfl
  rw [e] at h; omega
/-- b is x's bit length (x is not 0) -/
def Bl (x b : Int32) : Prop := ∃ k : Nat, k < 32 ∧ b = Int32.ofNat (k + 1) ∧ 2 ^ k ≤ uN x ∧ uN x < 2 ^ (k + 1)
theorem Bl.of_tz {x t b : Int32} (h : Tz x t) (B : Bl x b) : t < b := by
  obtain ⟨k, m, hk, rfl, e⟩ := h
  obtain ⟨j, hj, rfl, -, h2⟩ := B
  have h1 : 2 ^ k * 1 ≤ 2 ^ k * (2 * m + 1) := Nat.mul_le_mul_left _ (by omega)
  have hkj : k < j + 1 := (Nat.pow_lt_pow_iff_right (by decide : 1 < 2)).mp (Nat.lt_of_le_of_lt (by rw [Nat.mul_one] at h1; rw [e] at *; exact h1) h2)
  have : ∀ (a : Fin 32) (c : Fin 32), a.val < c.val + 1 → Int32.ofNat a.val < Int32.ofNat (c.val + 1) := by decide +kernel
  exact this ⟨k, hk⟩ ⟨j, hj⟩ hkj
theorem Bl.shr {x b y t : Int32} (B : Bl x b) (h : Tz y t) (hlt : t < b) : ¬ XT.ushr x t = 0 := by
  obtain ⟨k, m, hk, rfl, e⟩ := h
  obtain ⟨j, hj, rfl, h1, -⟩ := B
  have : ∀ (a : Fin 32) (c : Fin 32), Int32.ofNat a.val < Int32.ofNat (c.val + 1) → a.val ≤ c.val := by decide +kernel
  have hkj := this ⟨k, hk⟩ ⟨j, hj⟩ hlt
  intro q
  have z := ushr_uN x _ k (ofN_mod hk)
  rw [q] at z
  have h3 : 2 ^ k ≤ uN x := Nat.le_trans (Nat.pow_le_pow_right (by decide) hkj) h1
  have h4 : 0 < uN x / 2 ^ k := Nat.div_pos h3 (Nat.two_pow_pos k)
  rw [← z] at h4; exact absurd h4 (by decide)
theorem Tz.half {x y t : Int32} (h : Tz y t) (h0 : ¬ t = 0) : 2 * uN (XT.ushr x t) ≤ uN x := by
  obtain ⟨k, m, hk, rfl, e⟩ := h
  rw [ushr_uN x _ k (ofN_mod hk)]
  cases k with
  | zero => exact absurd rfl h0
  | succ k =>
    rw [Nat.pow_succ, Nat.mul_comm (2 ^ k) 2, ← Nat.div_div_eq_div_mul]
    have := Nat.div_le_self (uN x / 2) (2 ^ k)
    omega
theorem Bl.mk (x b : Int32) (k : Nat) (hk : k < 32) (hb : Int32.ofNat (k + 1) = b) (h1 : 2 ^ k ≤ uN x) (h2 : uN x < 2 ^ (k + 1)) : Bl x b := ⟨k, hk, hb.symm, h1, h2⟩
theorem bl_ex {x : Int32} (hx : ¬ x = 0) : ∃ k : Nat, k < 32 ∧ 2 ^ k ≤ uN x ∧ uN x < 2 ^ (k + 1) := by
  refine ⟨Nat.log2 (uN x), ?_, Nat.log2_self_le (by have := uN_ne hx; omega), Nat.lt_log2_self⟩
  rw [Nat.log2_lt (by have := uN_ne hx; omega)]; exact uN_lt x
theorem pos_uN {x : Int32} : (0 : Int32) < x ↔ 0 < uN x ∧ uN x < 2147483648 := by
  rw [Int32.lt_iff_toInt_lt]
  have e : (0 : Int32).toInt = 0 := rfl
  have h := uN_int x
  have r := rng32 x
  omega
theorem lt_lit {x c : Int32} (hx : uN x < 2147483648) (hc : uN c < 2147483648) : x < c ↔ uN x < uN c := by
  rw [Int32.lt_iff_toInt_lt]
  have h := uN_int x
  have h' := uN_int c
  have r := rng32 x
  have r' := rng32 c
  omega

theorem bl_cases {x : Int32} (hx : ¬ x = 0) : (1 ≤ uN x ∧ uN x < 2) ∨ (2 ≤ uN x ∧ uN x < 4) ∨ (4 ≤ uN x ∧ uN x < 8) ∨ (8 ≤ uN x ∧ uN x < 16) ∨ (16 ≤ uN x ∧ uN x < 32) ∨ (32 ≤ uN x ∧ uN x < 64) ∨ (64 ≤ uN x ∧ uN x < 128) ∨ (128 ≤ uN x ∧ uN x < 256) ∨ (256 ≤ uN x ∧ uN x < 512) ∨ (512 ≤ uN x ∧ uN x < 1024) ∨ (1024 ≤ uN x ∧ uN x < 2048) ∨ (2048 ≤ uN x ∧ uN x < 4096) ∨ (4096 ≤ uN x ∧ uN x < 8192) ∨ (8192 ≤ uN x ∧ uN x < 16384) ∨ (16384 ≤ uN x ∧ uN x < 32768) ∨ (32768 ≤ uN x ∧ uN x < 65536) ∨ (65536 ≤ uN x ∧ uN x < 131072) ∨ (131072 ≤ uN x ∧ uN x < 262144) ∨ (262144 ≤ uN x ∧ uN x < 524288) ∨ (524288 ≤ uN x ∧ uN x < 1048576) ∨ (1048576 ≤ uN x ∧ uN x < 2097152) ∨ (2097152 ≤ uN x ∧ uN x < 4194304) ∨ (4194304 ≤ uN x ∧ uN x < 8388608) ∨ (8388608 ≤ uN x ∧ uN x < 16777216) ∨ (16777216 ≤ uN x ∧ uN x < 33554432) ∨ (33554432 ≤ uN x ∧ uN x < 67108864) ∨ (67108864 ≤ uN x ∧ uN x < 134217728) ∨ (134217728 ≤ uN x ∧ uN x < 268435456) ∨ (268435456 ≤ uN x ∧ uN x < 536870912) ∨ (536870912 ≤ uN x ∧ uN x < 1073741824) ∨ (1073741824 ≤ uN x ∧ uN x < 2147483648) ∨ (2147483648 ≤ uN x ∧ uN x < 4294967296) := by
  obtain ⟨k, hk, h1, h2⟩ := bl_ex hx
  rcases Nat.lt_or_ge k 1 with h | h
  · obtain rfl : k = 0 := by omega
    exact Or.inl ⟨h1, h2⟩
  rcases Nat.lt_or_ge k 2 with h | h
  · obtain rfl : k = 1 := by omega
    exact Or.inr (Or.inl ⟨h1, h2⟩)
  rcases Nat.lt_or_ge k 3 with h | h
  · obtain rfl : k = 2 := by omega
    exact Or.inr (Or.inr (Or.inl ⟨h1, h2⟩))
  rcases Nat.lt_or_ge k 4 with h | h
  · obtain rfl : k = 3 := by omega
    exact Or.inr (Or.inr (Or.inr (Or.inl ⟨h1, h2⟩)))
  rcases Nat.lt_or_ge k 5 with h | h
  · obtain rfl : k = 4 := by omega
    exact Or.inr (Or.inr (Or.inr (Or.inr (Or.inl ⟨h1, h2⟩))))
  rcases Nat.lt_or_ge k 6 with h | h
  · obtain rfl : k = 5 := by omega
    exact Or.inr (Or.inr (Or.inr (Or.inr (Or.inr (Or.inl ⟨h1, h2⟩)))))
  rcases Nat.lt_or_ge k 7 with h | h
  · obtain rfl : k = 6 := by omega
    exact Or.inr (Or.inr (Or.inr (Or.inr (Or.inr (Or.inr (Or.inl ⟨h1, h2⟩))))))
  rcases Nat.lt_or_ge k 8 with h | h
  · obtain rfl : k = 7 := by omega
    exact Or.inr (Or.inr (Or.inr (Or.inr (Or.inr (Or.inr (Or.inr (Or.inl ⟨h1, h2⟩)))))))
  rcases Nat.lt_or_ge k 9 with h | h
  · obtain rfl : k = 8 := by omega
    exact Or.inr (Or.inr (Or.inr (Or.inr (Or.inr (Or.inr (Or.inr (Or.inr (Or.inl ⟨h1, h2⟩))))))))
  rcases Nat.lt_or_ge k 10 with h | h
  · obtain rfl : k = 9 := by omega
    exact Or.inr (Or.inr (Or.inr (Or.inr (Or.inr (Or.inr (Or.inr (Or.inr (Or.inr (Or.inl ⟨h1, h2⟩)))))))))
  rcases Nat.lt_or_ge k 11 with h | h
  · obtain rfl : k = 10 := by omega
    exact Or.inr (Or.inr (Or.inr (Or.inr (Or.inr (Or.inr (Or.inr (Or.inr (Or.inr (Or.inr (Or.inl ⟨h1, h2⟩))))))))))
  rcases Nat.lt_or_ge k 12 with h | h
  · obtain rfl : k = 11 := by omega
    exact Or.inr (Or.inr (Or.inr (Or.inr (Or.inr (Or.inr (Or.inr (Or.inr (Or.inr (Or.inr (Or.inr (Or.inl ⟨h1, h2⟩)))))))))))
  rcases Nat.lt_or_ge k 13 with h | h
  · obtain rfl : k = 12 := by omega
    exact Or.inr (Or.inr (Or.inr (Or.inr (Or.inr (Or.inr (Or.inr (Or.inr (Or.inr (Or.inr (Or.inr (Or.inr (Or.inl ⟨h1, h2⟩))))))))))))
  rcases Nat.lt_or_ge k 14 with h | h
  · obtain rfl : k = 13 := by omega
    exact Or.inr (Or.inr (Or.inr (Or.inr (Or.inr (Or.inr (Or.inr (Or.inr (Or.inr (Or.inr (Or.inr (Or.inr (Or.inr (Or.inl ⟨h1, h2⟩)))))))))))))
  rcases Nat.lt_or_ge k 15 with h | h
  · obtain rfl : k = 14 := by omega
    exact Or.inr (Or.inr (Or.inr (Or.inr (Or.inr (Or.inr (Or.inr (Or.inr (Or.inr (Or.inr (Or.inr (Or.inr (Or.inr (Or.inr (Or.inl ⟨h1, h2⟩))))))))))))))
  rcases Nat.lt_or_ge k 16 with h | h
  · obtain rfl : k = 15 := by omega
    exact Or.inr (Or.inr (Or.inr (Or.inr (Or.inr (Or.inr (Or.inr (Or.inr (Or.inr (Or.inr (Or.inr (Or.inr (Or.inr (Or.inr (Or.inr (Or.inl ⟨h1, h2⟩)))))))))))))))
  rcases Nat.lt_or_ge k 17 with h | h
  · obtain rfl : k = 16 := by omega
    exact Or.inr (Or.inr (Or.inr (Or.inr (Or.inr (Or.inr (Or.inr (Or.inr (Or.inr (Or.inr (Or.inr (Or.inr (Or.inr (Or.inr (Or.inr (Or.inr (Or.inl ⟨h1, h2⟩))))))))))))))))
  rcases Nat.lt_or_ge k 18 with h | h
  · obtain rfl : k = 17 := by omega
    exact Or.inr (Or.inr (Or.inr (Or.inr (Or.inr (Or.inr (Or.inr (Or.inr (Or.inr (Or.inr (Or.inr (Or.inr (Or.inr (Or.inr (Or.inr (Or.inr (Or.inr (Or.inl ⟨h1, h2⟩)))))))))))))))))
  rcases Nat.lt_or_ge k 19 with h | h
  · obtain rfl : k = 18 := by omega
    exact Or.inr (Or.inr (Or.inr (Or.inr (Or.inr (Or.inr (Or.inr (Or.inr (Or.inr (Or.inr (Or.inr (Or.inr (Or.inr (Or.inr (Or.inr (Or.inr (Or.inr (Or.inr (Or.inl ⟨h1, h2⟩))))))))))))))))))
  rcases Nat.lt_or_ge k 20 with h | h
  · obtain rfl : k = 19 := by omega
    exact Or.inr (Or.inr (Or.inr (Or.inr (Or.inr (Or.inr (Or.inr (Or.inr (Or.inr (Or.inr (Or.inr (Or.inr (Or.inr (Or.inr (Or.inr (Or.inr (Or.inr (Or.inr (Or.inr (Or.inl ⟨h1, h2⟩)))))))))))))))))))
  rcases Nat.lt_or_ge k 21 with h | h
  · obtain rfl : k = 20 := by omega
    exact Or.inr (Or.inr (Or.inr (Or.inr (Or.inr (Or.inr (Or.inr (Or.inr (Or.inr (Or.inr (Or.inr (Or.inr (Or.inr (Or.inr (Or.inr (Or.inr (Or.inr (Or.inr (Or.inr (Or.inr (Or.inl ⟨h1, h2⟩))))))))))))))))))))
  rcases Nat.lt_or_ge k 22 with h | h
  · obtain rfl : k = 21 := by omega
    exact Or.inr (Or.inr (Or.inr (Or.inr (Or.inr (Or.inr (Or.inr (Or.inr (Or.inr (Or.inr (Or.inr (Or.inr (Or.inr (Or.inr (Or.inr (Or.inr (Or.inr (Or.inr (Or.inr (Or.inr (Or.inr (Or.inl ⟨h1, h2⟩)))))))))))))))))))))
  rcases Nat.lt_or_ge k 23 with h | h
  · obtain rfl : k = 22 := by omega
    exact Or.inr (Or.inr (Or.inr (Or.inr (Or.inr (Or.inr (Or.inr (Or.inr (Or.inr (Or.inr (Or.inr (Or.inr (Or.inr (Or.inr (Or.inr (Or.inr (Or.inr (Or.inr (Or.inr (Or.inr (Or.inr (Or.inr (Or.inl ⟨h1, h2⟩))))))))))))))))))))))
  rcases Nat.lt_or_ge k 24 with h | h
  · obtain rfl : k = 23 := by omega
    exact Or.inr (Or.inr (Or.inr (Or.inr (Or.inr (Or.inr (Or.inr (Or.inr (Or.inr (Or.inr (Or.inr (Or.inr (Or.inr (Or.inr (Or.inr (Or.inr (Or.inr (Or.inr (Or.inr (Or.inr (Or.inr (Or.inr (Or.inr (Or.inl ⟨h1, h2⟩)))))))))))))))))))))))
  rcases Nat.lt_or_ge k 25 with h | h
  · obtain rfl : k = 24 := by omega
    exact Or.inr (Or.inr (Or.inr (Or.inr (Or.inr (Or.inr (Or.inr (Or.inr (Or.inr (Or.inr (Or.inr (Or.inr (Or.inr (Or.inr (Or.inr (Or.inr (Or.inr (Or.inr (Or.inr (Or.inr (Or.inr (Or.inr (Or.inr (Or.inr (Or.inl ⟨h1, h2⟩))))))))))))))))))))))))
  rcases Nat.lt_or_ge k 26 with h | h
  · obtain rfl : k = 25 := by omega
    exact Or.inr (Or.inr (Or.inr (Or.inr (Or.inr (Or.inr (Or.inr (Or.inr (Or.inr (Or.inr (Or.inr (Or.inr (Or.inr (Or.inr (Or.inr (Or.inr (Or.inr (Or.inr (Or.inr (Or.inr (Or.inr (Or.inr (Or.inr (Or.inr (Or.inr (Or.inl ⟨h1, h2⟩)))))))))))))))))))))))))
  rcases Nat.lt_or_ge k 27 with h | h
  · obtain rfl : k = 26 := by omega
    exact Or.inr (Or.inr (Or.inr (Or.inr (Or.inr (Or.inr (Or.inr (Or.inr (Or.inr (Or.inr (Or.inr (Or.inr (Or.inr (Or.inr (Or.inr (Or.inr (Or.inr (Or.inr (Or.inr (Or.inr (Or.inr (Or.inr (Or.inr (Or.inr (Or.inr (Or.inr (Or.inl ⟨h1, h2⟩))))))))))))))))))))))))))
  rcases Nat.lt_or_ge k 28 with h | h
  · obtain rfl : k = 27 := by omega
    exact Or.inr (Or.inr (Or.inr (Or.inr (Or.inr (Or.inr (Or.inr (Or.inr (Or.inr (Or.inr (Or.inr (Or.inr (Or.inr (Or.inr (Or.inr (Or.inr (Or.inr (Or.inr (Or.inr (Or.inr (Or.inr (Or.inr (Or.inr (Or.inr (Or.inr (Or.inr (Or.inr (Or.inl ⟨h1, h2⟩)))))))))))))))))))))))))))
  rcases Nat.lt_or_ge k 29 with h | h
  · obtain rfl : k = 28 := by omega
    exact Or.inr (Or.inr (Or.inr (Or.inr (Or.inr (Or.inr (Or.inr (Or.inr (Or.inr (Or.inr (Or.inr (Or.inr (Or.inr (Or.inr (Or.inr (Or.inr (Or.inr (Or.inr (Or.inr (Or.inr (Or.inr (Or.inr (Or.inr (Or.inr (Or.inr (Or.inr (Or.inr (Or.inr (Or.inl ⟨h1, h2⟩))))))))))))))))))))))))))))
  rcases Nat.lt_or_ge k 30 with h | h
  · obtain rfl : k = 29 := by omega
    exact Or.inr (Or.inr (Or.inr (Or.inr (Or.inr (Or.inr (Or.inr (Or.inr (Or.inr (Or.inr (Or.inr (Or.inr (Or.inr (Or.inr (Or.inr (Or.inr (Or.inr (Or.inr (Or.inr (Or.inr (Or.inr (Or.inr (Or.inr (Or.inr (Or.inr (Or.inr (Or.inr (Or.inr (Or.inr (Or.inl ⟨h1, h2⟩)))))))))))))))))))))))))))))
  rcases Nat.lt_or_ge k 31 with h | h
  · obtain rfl : k = 30 := by omega
    exact Or.inr (Or.inr (Or.inr (Or.inr (Or.inr (Or.inr (Or.inr (Or.inr (Or.inr (Or.inr (Or.inr (Or.inr (Or.inr (Or.inr (Or.inr (Or.inr (Or.inr (Or.inr (Or.inr (Or.inr (Or.inr (Or.inr (Or.inr (Or.inr (Or.inr (Or.inr (Or.inr (Or.inr (Or.inr (Or.inr (Or.inl ⟨h1, h2⟩))))))))))))))))))))))))))))))
  rcases Nat.lt_or_ge k 32 with h | h
  · obtain rfl : k = 31 := by omega
    exact Or.inr (Or.inr (Or.inr (Or.inr (Or.inr (Or.inr (Or.inr (Or.inr (Or.inr (Or.inr (Or.inr (Or.inr (Or.inr (Or.inr (Or.inr (Or.inr (Or.inr (Or.inr (Or.inr (Or.inr (Or.inr (Or.inr (Or.inr (Or.inr (Or.inr (Or.inr (Or.inr (Or.inr (Or.inr (Or.inr (Or.inr (⟨h1, h2⟩)))))))))))))))))))))))))))))))
  omega
def sh (x : Int32) (s : Nat) : Int32 := Int32.ofNat (uN x / 2 ^ s)
theorem uN_sh (x : Int32) (s : Nat) : uN (sh x s) = uN x / 2 ^ s := uN_ofNat (Nat.lt_of_le_of_lt (Nat.div_le_self _ _) (uN_lt x))
theorem ushr_sh (x q : Int32) (k : Nat) (hk : q.toBitVec.toNat % 32 = k) : XT.ushr x q = sh x k := uN_inj ((ushr_uN x q k hk).trans (uN_sh x k).symm)
theorem sh_ushr (x : Int32) (s : Nat) (q : Int32) (k : Nat) (hk : q.toBitVec.toNat % 32 = k) : XT.ushr (sh x s) q = sh x (s + k) := uN_inj (by rw [ushr_uN _ q k hk, uN_sh, uN_sh, Nat.div_div_eq_div_mul, Nat.pow_add])
theorem sh_lt {x : Int32} (s P : Nat) (hP : 2 ^ s = P) (c : Int32) (n : Nat) (hn : uN c = n) (h2 : n < 2147483648) (hx : uN x < 2147483648) : sh x s < c ↔ uN x / P < n := by
  subst hP hn
  rw [lt_lit (by rw [uN_sh]; exact Nat.lt_of_le_of_lt (Nat.div_le_self _ _) hx) h2, uN_sh]
theorem sh_lit {x : Int32} (s P : Nat) (hP : 2 ^ s = P) (n : Nat) (h : uN x / P = n) (hn : n < 4294967296) : sh x s = Int32.ofNat n := by
  subst hP h; rfl
theorem uN_sub1 {x : Int32} (h : ¬ x = 0) : uN (x - 1) = uN x - 1 := by
  have p := uN_ne h
  have l := uN_lt x
  have e := uN_int (x - 1)
  have e2 := uN_int x
  have z := c_isub x 1
  have o : (1 : Int32).toInt = 1 := rfl
  omega
theorem sub_one_ne {a : Int32} (ha : ¬ a = 1) : ¬ (a - 1 = 0) := fun q => ha (by
  have z := c_isub a 1
  have o : (1 : Int32).toInt = 1 := rfl
  have o0 : (0 : Int32).toInt = 0 := rfl
  rw [q, o0, o] at z
  have r := rng32 a
  rw [← Int32.toInt_inj, o]; omega)
theorem gt_one {a : Int32} (ho : uN a % 2 = 1) (ha : ¬ a = 1) : (-2147483647 : Int32) < (a + (-2147483648 : Int32)) := by
  rw [Int32.lt_iff_toInt_lt]
  have h := uN_int a
  have r := rng32 a
  have z := c_iadd a (-2147483648)
  have r2 := rng32 (a + (-2147483648))
  have e : (-2147483648 : Int32).toInt = -2147483648 := by decide
  have e2 : (-2147483647 : Int32).toInt = -2147483647 := by decide
  have n1 : uN a ≠ 1 := fun q => ha (uN_inj (q.trans (by decide)))
  omega
theorem step_le {a t : Int32} {N : Nat} (ho : uN a % 2 = 1) (h : Tz (a - 1) t) (hN : uN a ≤ N + 1) : uN (XT.ushr (a - 1) t) ≤ N := by
  have h1 := h.le
  have h2 := uN_sub1 (odd_ne ho)
  omega
theorem bg_step {n0 n1 m0 m1 : Int32} {N : Nat} (h1 : ¬ n1 = 0) (le : uN n0 * 4294967296 + uN n1 ≤ uN m0 * 4294967296 + uN m1) (hN : uN m0 * 4294967296 + uN m1 ≤ N + 1) : uN n0 * 4294967296 + uN (n1 - 1) ≤ N := by
  have h2 := uN_sub1 h1
  have h3 := uN_ne h1
  rw [h2]
  exact Nat.le_of_lt_succ (nltle (Nat.add_lt_add_left (Nat.sub_lt h3 Nat.one_pos) _) (Nat.le_trans le hN))
theorem tz_5 {x z : Int32} (h : Tz x z) : XT.ushr z 5 = 0 := by
  obtain ⟨k, m, hk, rfl, -⟩ := h
  have : ∀ k : Fin 32, XT.ushr (Int32.ofNat k.val) 5 = 0 := by decide
  exact this ⟨k, hk⟩
theorem tz_31 {x z : Int32} (h : Tz x z) : z &&& 31 = z := by
  obtain ⟨k, m, hk, rfl, -⟩ := h
  have : ∀ k : Fin 32, Int32.ofNat k.val &&& 31 = Int32.ofNat k.val := by decide
  exact this ⟨k, hk⟩
theorem tz32_5 {x z : Int32} (h : Tz x z) : XT.ushr ((32 : Int32) + z) 5 = 1 := by
  obtain ⟨k, m, hk, rfl, -⟩ := h
  have : ∀ k : Fin 32, XT.ushr ((32 : Int32) + Int32.ofNat k.val) 5 = 1 := by decide
  exact this ⟨k, hk⟩
theorem tz32_31 {x z : Int32} (h : Tz x z) : ((32 : Int32) + z) &&& 31 = z := by
  obtain ⟨k, m, hk, rfl, -⟩ := h
  have : ∀ k : Fin 32, ((32 : Int32) + Int32.ofNat k.val) &&& 31 = Int32.ofNat k.val := by decide
  exact this ⟨k, hk⟩
theorem tz32_nn {x z : Int32} (h : Tz x z) : ¬ ((32 : Int32) + z) < 0 := by
  obtain ⟨k, m, hk, rfl, -⟩ := h
  have : ∀ k : Fin 32, ¬ ((32 : Int32) + Int32.ofNat k.val) < 0 := by decide
  exact this ⟨k, hk⟩
theorem tz32_ne {x z : Int32} (h : Tz x z) : ¬ ((0 : Int32) = ((32 : Int32) + z)) := by
  obtain ⟨k, m, hk, rfl, -⟩ := h
  have : ∀ k : Fin 32, ¬ ((0 : Int32) = ((32 : Int32) + Int32.ofNat k.val)) := by decide
  exact this ⟨k, hk⟩
theorem sub_sub32 (z : Int32) : (32 : Int32) - ((32 : Int32) - z) = z := by
  have h1 := c_isub 32 z
  have h2 := c_isub 32 ((32 : Int32) - z)
  have r1 := rng32 z
  have r2 := rng32 ((32 : Int32) - ((32 : Int32) - z))
  have e : (32 : Int32).toInt = 32 := rfl
  rw [← Int32.toInt_inj]; omega
theorem half_le {n0 n1 m0 m1 : Int32} (hn : ¬ n0 = 0) (h : 2 * uN n0 ≤ uN m0) : uN n0 * 4294967296 + uN n1 ≤ uN m0 * 4294967296 + uN m1 := by
  have := uN_ne hn
  have := uN_lt n1
  omega
def dif (m : Int32) : Int64 := ((m.toInt64 &&& (4294967295 : Int64)) - ((1 : Int64) &&& (4294967295 : Int64))) + ((0 : Int64) >>> ((32 : Int32).toInt64 &&& 63))
theorem msk (m : Int32) : (m.toInt64 &&& (4294967295 : Int64)).toInt = uN m := by
  rw [c_maskL _ _ 32 (by decide) (by decide), c_i2l, uN_int]; rfl
theorem dif_int (m : Int32) : (dif m).toInt = uN m - 1 := by
  have h := msk m
  have e0 : ((0 : Int64) >>> ((32 : Int32).toInt64 &&& 63)) = 0 := by decide
  have e1 : ((1 : Int64) &&& (4294967295 : Int64)) = 1 := by decide
  have l := uN_lt m
  have s := c_lsub (m.toInt64 &&& (4294967295 : Int64)) 1
  have a := c_ladd ((m.toInt64 &&& (4294967295 : Int64)) - 1) 0
  have o1 : (1 : Int64).toInt = 1 := rfl
  have o0 : (0 : Int64).toInt = 0 := rfl
  have r1 := rng64 ((m.toInt64 &&& (4294967295 : Int64)) - 1)
  have r2 := rng64 (((m.toInt64 &&& (4294967295 : Int64)) - 1) + 0)
  show (((m.toInt64 &&& (4294967295 : Int64)) - ((1 : Int64) &&& (4294967295 : Int64))) + ((0 : Int64) >>> ((32 : Int32).toInt64 &&& 63))).toInt = _
  rw [e0, e1]; omega
theorem dif_lo (m : Int32) : (dif m).toInt32 = m - 1 := by
  have h := dif_int m
  have z := c_l2i (dif m)
  have s := c_isub m 1
  have e := uN_int m
  have o1 : (1 : Int32).toInt = 1 := rfl
  have r1 := rng32 (dif m).toInt32
  have r2 := rng32 (m - 1)
  rw [← Int32.toInt_inj]; omega
theorem cmpL_lt {x y : Int64} : XT.cmpL x y < 0 ↔ x < y := by
  unfold XT.cmpL
  split
  · rename_i h; constructor
    · intro q; exact absurd q (by decide)
    · intro q; exact absurd (Int64.lt_trans h q) (by simp)
  · split
    · rename_i h; subst h; constructor
      · intro q; exact absurd q (by decide)
      · intro q; exact absurd q (by simp)
    · rename_i h1 h2; constructor
      · intro _
        rw [Int64.lt_iff_toInt_lt] at h1 ⊢
        rw [← Int64.toInt_inj] at h2; omega
      · intro _; decide
theorem cmpL_eq {x y : Int64} : XT.cmpL x y = 0 ↔ x = y := by
  unfold XT.cmpL
  split
  · rename_i h; constructor
    · intro q; exact absurd q (by decide)
    · intro q; subst q; exact absurd h (by simp)
  · split
    · rename_i h; exact ⟨fun _ => h, fun _ => rfl⟩
    · rename_i h1 h2; exact ⟨fun q => absurd q (by decide), fun q => absurd q h2⟩
theorem cmpL_gt {x y : Int64} : (0 : Int32) < XT.cmpL x y ↔ y < x := by
  unfold XT.cmpL
  split
  · rename_i h; exact ⟨fun _ => h, fun _ => by decide⟩
  · rename_i h1
    split
    · exact ⟨fun q => absurd q (by decide), fun q => absurd q h1⟩
    · exact ⟨fun q => absurd q (by decide), fun q => absurd q h1⟩
theorem cmpL_gt2 {x y : Int64} (h1 : ¬ XT.cmpL x y < 0) (h2 : ¬ XT.cmpL x y = 0) : y < x := by
  have a : ¬ x < y := fun z => h1 (cmpL_lt.mpr z)
  have b : ¬ x = y := fun z => h2 (cmpL_eq.mpr z)
  rw [Int64.lt_iff_toInt_lt] at a ⊢
  rw [← Int64.toInt_inj] at b; omega
theorem dif_nn {m : Int32} (h : ¬ m = 0) : ¬ XT.cmpL (dif m) 0 < 0 := fun q => by
  have z := cmpL_lt.mp q
  rw [Int64.lt_iff_toInt_lt, dif_int] at z
  have p := uN_ne h
  have o0 : (0 : Int64).toInt = 0 := rfl
  omega
theorem mlt {a b : Int32} : XT.cmpL (a.toInt64 &&& (4294967295 : Int64)) (b.toInt64 &&& (4294967295 : Int64)) < 0 ↔ uN a < uN b := by
  rw [cmpL_lt, Int64.lt_iff_toInt_lt, msk, msk]; omega
theorem mgt {a b : Int32} (hne : ¬ a = b) (h : ¬ XT.cmpL (a.toInt64 &&& (4294967295 : Int64)) (b.toInt64 &&& (4294967295 : Int64)) < 0) : uN b < uN a := by
  rw [mlt] at h
  have : uN a ≠ uN b := fun q => hne (uN_inj q)
  omega
theorem toI1 : (1 : Int32).toInt = 1 := rfl
theorem toIm1 : (-1 : Int32).toInt = -1 := by decide
theorem trl {A B a b : Int} {r : Int32} (h : (r = (-1 : Int32) ∧ A < B) ∨ (r = (0 : Int32) ∧ A = B) ∨ (r = (1 : Int32) ∧ B < A)) (ea : A = a) (eb : B = b) (q : a < b) : r = -1 := by
  rcases h with ⟨h, _⟩ | ⟨_, z⟩ | ⟨_, z⟩
  · exact h
  · exfalso; omega
  · exfalso; omega
theorem tre {A B a b : Int} {r : Int32} (h : (r = (-1 : Int32) ∧ A < B) ∨ (r = (0 : Int32) ∧ A = B) ∨ (r = (1 : Int32) ∧ B < A)) (ea : A = a) (eb : B = b) (q : a = b) : r = 0 := by
  rcases h with ⟨_, z⟩ | ⟨h, _⟩ | ⟨_, z⟩
  · exfalso; omega
  · exact h
  · exfalso; omega
theorem trg {A B a b : Int} {r : Int32} (h : (r = (-1 : Int32) ∧ A < B) ∨ (r = (0 : Int32) ∧ A = B) ∨ (r = (1 : Int32) ∧ B < A)) (ea : A = a) (eb : B = b) (q : b < a) : r = 1 := by
  rcases h with ⟨_, z⟩ | ⟨_, z⟩ | ⟨h, _⟩
  · exfalso; omega
  · exfalso; omega
  · exact h
def bv1 (g m : Int32) : Int := g.toInt * uN m
def bv2 (g m0 m1 : Int32) : Int := g.toInt * (uN m0 * 4294967296 + uN m1 : Nat)
def sgv (v : Int64) : Int32 := if v < 0 then -1 else 1
def absL (v : Int64) : Int64 := if v < 0 then -v else v
def hiv (v : Int64) : Int32 := (XT.ushrL (absL v) (32 : Int32)).toInt32
def lov (v : Int64) : Int32 := (absL v).toInt32
theorem sgv_eqm {v : Int64} (h : v < 0) : sgv v = -1 := if_pos h
theorem sgv_eqp {v : Int64} (h : ¬ v < 0) : sgv v = 1 := if_neg h
theorem sgv_m {v : Int64} (h : v < 0) : Int32.ofInt (-1) = sgv v := (by decide : Int32.ofInt (-1) = -1).trans (sgv_eqm h).symm
theorem sgv_p {v : Int64} (h : ¬ v < 0) : Int32.ofInt 1 = sgv v := (by decide : Int32.ofInt 1 = 1).trans (sgv_eqp h).symm
theorem sgv_cases (v : Int64) : sgv v = (1 : Int32) ∨ sgv v = (-1 : Int32) := by
  by_cases h : v < 0
  · exact Or.inr (sgv_eqm h)
  · exact Or.inl (sgv_eqp h)
theorem sgv_ne (v : Int64) : ¬ (sgv v = (0 : Int32)) := by
  rcases sgv_cases v with h | h <;> rw [h] <;> decide
theorem absL_m {v : Int64} (h : v < 0) : -v = absL v := (if_pos h).symm
theorem absL_p {v : Int64} (h : ¬ v < 0) : absL v = v := if_neg h
theorem hiv_p {v : Int64} (h : ¬ v < 0) : (XT.ushrL v (32 : Int32)).toInt32 = hiv v := by unfold hiv; rw [absL_p h]
theorem lov_p {v : Int64} (h : ¬ v < 0) : v.toInt32 = lov v := by unfold lov; rw [absL_p h]
theorem ushrL32 (x : Int64) : (XT.ushrL x (32 : Int32)).toInt = (x.toInt % 18446744073709551616) / 4294967296 := by
  have h := c_lushr x 32 32 (by decide) (by decide)
  have e : (((32 : Int32).toInt64.toUInt64) &&& Int64.toUInt64 63) = ((32 : Int32) &&& 0x3f).toInt64.toUInt64 := by decide
  unfold XT.ushrL
  rw [e, h]; rfl
theorem abs_val (v : Int64) : (absL v).toInt % 18446744073709551616 = if v < 0 then -v.toInt else v.toInt := by
  have r := rng64 v
  by_cases h : v < 0
  · rw [← absL_m h, if_pos h]
    have z := c_lneg v
    rw [Int64.lt_iff_toInt_lt] at h
    have o0 : (0 : Int64).toInt = 0 := rfl
    omega
  · rw [absL_p h, if_neg h]
    rw [Int64.lt_iff_toInt_lt] at h
    have o0 : (0 : Int64).toInt = 0 := rfl
    omega
theorem lov_val (v : Int64) : (uN (lov v) : Int) = ((absL v).toInt % 18446744073709551616) % 4294967296 := by
  have h := uN_int (lov v)
  have z := c_l2i (absL v)
  have e : (lov v).toInt = (absL v).toInt32.toInt := rfl
  omega
theorem hiv_val (v : Int64) : (uN (hiv v) : Int) = ((absL v).toInt % 18446744073709551616) / 4294967296 := by
  have h := uN_int (hiv v)
  have z := c_l2i (XT.ushrL (absL v) (32 : Int32))
  have u := ushrL32 (absL v)
  have e : (hiv v).toInt = (XT.ushrL (absL v) (32 : Int32)).toInt32.toInt := rfl
  omega
theorem whole (v : Int64) : (sgv v).toInt * ((uN (hiv v) * 4294967296 + uN (lov v) : Nat) : Int) = v.toInt := by
  have a := abs_val v
  have l := lov_val v
  have h := hiv_val v
  have c : ((uN (hiv v) * 4294967296 + uN (lov v) : Nat) : Int) = (absL v).toInt % 18446744073709551616 := by omega
  rw [c, a]
  by_cases q : v < 0
  · rw [if_pos q, sgv_eqm q, toIm1]; omega
  · rw [if_neg q, sgv_eqp q, toI1]; omega
theorem bvv2 {v : Int64} (_ : ¬ v = 0) (_ : ¬ hiv v = 0) : bv2 (sgv v) (hiv v) (lov v) = v.toInt := whole v
theorem bvv1 {v : Int64} (_ : ¬ v = 0) (hh : hiv v = 0) : bv1 (sgv v) (lov v) = v.toInt := by
  have w := whole v
  rw [hh] at w
  have z : uN (0 : Int32) = 0 := by decide
  rw [z] at w
  show (sgv v).toInt * ((uN (lov v) : Nat) : Int) = v.toInt
  rw [← w]; congr 2; omega
theorem lov_ne {v : Int64} (hv : ¬ v = 0) (hh : hiv v = 0) : ¬ lov v = 0 := fun q => hv (by
  have w := bvv1 hv hh
  rw [q] at w
  have z : bv1 (sgv v) 0 = 0 := by show (sgv v).toInt * ((0 : Nat) : Int) = 0; simp
  rw [z] at w
  rw [← Int64.toInt_inj, ← w]; rfl)
theorem cls (v : Int64) : v = 0 ∨ (¬ v = 0 ∧ hiv v = 0) ∨ (¬ v = 0 ∧ ¬ hiv v = 0) := by
  by_cases h : v = 0
  · exact Or.inl h
  · by_cases q : hiv v = 0
    · exact Or.inr (Or.inl ⟨h, q⟩)
    · exact Or.inr (Or.inr ⟨h, q⟩)
theorem lt_asym {v : Int64} (h : 0 < v) : ¬ v < 0 := by
  rw [Int64.lt_iff_toInt_lt] at h ⊢; omega
theorem hiv_small {v : Int64} (h : (absL v).toInt % 18446744073709551616 < 4294967296) : hiv v = 0 := uN_inj (by
  have := hiv_val v
  have z : uN (0 : Int32) = 0 := by decide
  omega)
theorem small_p {v : Int64} (h : 0 < v) (h2 : ¬ 16 < v) : hiv v = 0 := hiv_small (by
  rw [abs_val, if_neg (lt_asym h)]
  rw [Int64.lt_iff_toInt_lt] at h2
  have o : (16 : Int64).toInt = 16 := rfl
  omega)
theorem small_n {v : Int64} (h : v < 0) (h2 : ¬ v < (-16 : Int64)) : hiv v = 0 := hiv_small (by
  rw [abs_val, if_pos h]
  rw [Int64.lt_iff_toInt_lt] at h2
  have o : (-16 : Int64).toInt = -16 := by decide
  omega)
theorem idx_p {v : Int64} (h : 0 < v) (h2 : ¬ 16 < v) : ¬ v.toInt32 < 0 ∧ v.toInt32 < 17 := by
  rw [Int64.lt_iff_toInt_lt] at h h2
  have o : (16 : Int64).toInt = 16 := rfl
  have o0 : (0 : Int64).toInt = 0 := rfl
  have z := c_l2i v
  have r := rng32 v.toInt32
  have e0 : (0 : Int32).toInt = 0 := rfl
  have e17 : (17 : Int32).toInt = 17 := rfl
  constructor <;> rw [Int32.lt_iff_toInt_lt] <;> omega
theorem idx_n {v : Int64} (h : v < 0) (h2 : ¬ v < (-16 : Int64)) : ¬ (-v).toInt32 < 0 ∧ (-v).toInt32 < 17 := by
  rw [Int64.lt_iff_toInt_lt] at h h2
  have o : (-16 : Int64).toInt = -16 := by decide
  have o0 : (0 : Int64).toInt = 0 := rfl
  have n := c_lneg v
  have rn := rng64 (-v)
  have z := c_l2i (-v)
  have r := rng32 (-v).toInt32
  have e0 : (0 : Int32).toInt = 0 := rfl
  have e17 : (17 : Int32).toInt = 17 := rfl
  constructor <;> rw [Int32.lt_iff_toInt_lt] <;> omega
/-- the constant for v stands in the array vs at i -/
def Held (Z : State) (vs : List Value) (i : Int32) (v : Int64) : Prop := ∃ (a t : Addr) (kt : ClassId), vs.getD i.toNatClampNeg .null = .ref a ∧ Exa Z Z.heap a "java/math/BigInteger" ∧ Fld Z Z.heap a "java/math/BigInteger" "signum" "I" (.int (sgv v)) ∧ Fld Z Z.heap a "java/math/BigInteger" "mag" "[I" (.ref t) ∧ Arv Z Z.heap t kt .int 1 [.int (lov v)] (.int 0) ∧ Exa Z Z.heap t "[I"

theorem Py.weaken {l : Launch} {Z : State} {z : MethodName} {fr lo cc ss : Nat} {as : Array Value} {h : Heap} {ws : List Addr} {Q Q' : Option Value → Heap → Prop} (H : Py l Z z fr lo cc ss as h ws Q) (f : ∀ v h', Q v h' → Q' v h') : Py l Z z fr lo cc ss as h ws Q' := fun hO hws p e R below s args len W hZ hf hl m meth c A g ig mk a X hg hs hd hW hm hp => by
  obtain ⟨v, B, h1, ⟨L, ⟨K, q, N⟩, r⟩, st⟩ := H hO hws p e R below s args len W hZ hf hl m meth c A g ig mk a X hg hs hd hW hm hp
  exact ⟨v, B, h1, ⟨L, ⟨K, f _ _ q, N⟩, r⟩, st⟩
/-- a is a BigInteger of the value v (0: the object zero) -/
def Num (Z : State) (h : Heap) (zero a : Addr) (v : Int64) : Prop := (v = 0 ∧ a = zero) ∨ ((¬ v = 0 ∧ hiv v = 0) ∧ ∃ (t : Addr) (kt : ClassId), Exa Z h a "java/math/BigInteger" ∧ Fld Z h a "java/math/BigInteger" "signum" "I" (.int (sgv v)) ∧ Fld Z h a "java/math/BigInteger" "mag" "[I" (.ref t) ∧ Arv Z h t kt .int 1 [.int (lov v)] (.int 0) ∧ Exa Z h t "[I") ∨ ((¬ v = 0 ∧ ¬ hiv v = 0) ∧ ∃ (t : Addr) (kt : ClassId), Exa Z h a "java/math/BigInteger" ∧ Fld Z h a "java/math/BigInteger" "signum" "I" (.int (sgv v)) ∧ Fld Z h a "java/math/BigInteger" "mag" "[I" (.ref t) ∧ Arv Z h t kt .int 2 [.int (hiv v), .int (lov v)] (.int 0) ∧ Exa Z h t "[I")
theorem Num.ext {Z : State} {h h' : Heap} {zero a : Addr} {v : Int64} (E : Ext h h') (n : Num Z h zero a v) : Num Z h' zero a v := by
  rcases n with n | ⟨c, t, kt, q1, q2, q3, q4, q5⟩ | ⟨c, t, kt, q1, q2, q3, q4, q5⟩
  · exact Or.inl n
  · exact Or.inr (Or.inl ⟨c, t, kt, Exa.ext E q1, Fld.ext E q2, Fld.ext E q3, q4.ext E, Exa.ext E q5⟩)
  · exact Or.inr (Or.inr ⟨c, t, kt, Exa.ext E q1, Fld.ext E q2, Fld.ext E q3, q4.ext E, Exa.ext E q5⟩)
theorem Num.keep {Z : State} {h h' : Heap} {zero a : Addr} {v : Int64} (K : Keep h h' []) (n : Num Z h zero a v) : Num Z h' zero a v := by
  rcases n with n | ⟨c, t, kt, q1, q2, q3, q4, q5⟩ | ⟨c, t, kt, q1, q2, q3, q4, q5⟩
  · exact Or.inl n
  · exact Or.inr (Or.inl ⟨c, t, kt, q1.keep K, q2.keep K nin0, q3.keep K nin0, q4.keep K nin0, q5.keep K⟩)
  · exact Or.inr (Or.inr ⟨c, t, kt, q1.keep K, q2.keep K nin0, q3.keep K nin0, q4.keep K nin0, q5.keep K⟩)
def sg3 (v : Int64) : Int32 := if v < 0 then -1 else if v = 0 then 0 else 1
theorem sg3_m {v : Int64} (h : v < 0) : sg3 v = (-1 : Int32) := if_pos h
theorem sg3_z {v : Int64} (h : v = 0) : sg3 v = (0 : Int32) := by subst h; decide
theorem sg3_p {v : Int64} (h : ¬ v < 0) (h2 : ¬ v = 0) : sg3 v = (1 : Int32) := (if_neg h).trans (if_neg h2)
theorem sg3_0 {v : Int64} (h : v = 0) : (0 : Int32) = sg3 v := (sg3_z h).symm
theorem sg3_n {v : Int64} (h : ¬ v = 0) : sgv v = sg3 v := by
  by_cases q : v < 0
  · rw [sgv_eqm q, sg3_m q]
  · rw [sgv_eqp q, sg3_p q h]
theorem tri3 {A B a b : Int} {r : Int32} (h : (r = (-1 : Int32) ∧ A < B) ∨ (r = (0 : Int32) ∧ A = B) ∨ (r = (1 : Int32) ∧ B < A)) (ea : A = a) (eb : B = b) : (r = (-1 : Int32) ∧ a < b) ∨ (r = (0 : Int32) ∧ a = b) ∨ (r = (1 : Int32) ∧ b < a) := by
  subst ea eb; exact h

theorem eqv_r {Z : State} {args : Array Value} {X F : Term} {idx : List Nat} {y : Addr} (hF : F.eval args Z none idx Z = some (.ref y)) (h : (Cond.eq X F).value args Z none Z idx = some true) : X.eval args Z none idx Z = some (.ref y) := by
  obtain ⟨x, y', e1, e2, k1, k2⟩ := cmp_v (Or.inl h)
  cases hF.symm.trans e2
  have hx : x.isRef = true := k2.2
  exact e1.trans (congrArg some (gotT (eq_R e1 hF hx rfl) h))
theorem fld_s {s : State} {args : Array Value} {t : Term} {a : Addr} {C n d : String} {v : Value} (ev : t.eval args s none [] s = some (.ref a)) (h : (Term.field t C n d).eval args s none [] s = some v) : Fld s s.heap a C n d v := Fld.start (by simpa [Term.eval, ev] using h)
theorem arr_s {s : State} {args : Array Value} {t : Term} {ty : FieldType} {a : Addr} {n : Int32} (ev : t.eval args s none [] s = some (.ref a)) (hA : (Cond.arrayOf t ty).value args s none s [] = some true) (hl : (Cond.eq (.length t) (.int n)).value args s none s [] = some true) : ∃ cl, Arr s s.heap a cl ty ∧ cl.slots.size < 2 ^ 31 ∧ cl.slots.size.toInt32 = n ∧ s.arrayAt? a = some cl := by
  obtain ⟨cl, A⟩ := Arr.start ev hA
  have hat : s.arrayAt? a = some cl := Arr.fin (Vm.Alike.refl _) A
  have e := eqv_i (Term.int_eval n) hl
  simp only [Term.eval, ev, hat, Option.bind_eq_bind, Option.bind_some] at e
  by_cases q : cl.slots.size < 2 ^ 31
  · rw [if_pos q] at e
    exact ⟨cl, A, q, by simpa using e, hat⟩
  · rw [if_neg q] at e; cases e
theorem elem_s {s : State} {args : Array Value} {t : Term} {a : Addr} {cl : Cell} {j : Int32} {v : Value} (ev : t.eval args s none [] s = some (.ref a)) (hat : s.arrayAt? a = some cl) (h : (Term.elem t (.int j)).eval args s none [] s = some v) : cl.slots[j.toNatClampNeg]? = some v := by
  obtain ⟨a', j', c', e1, e2, e3, -, e5⟩ := Term.elem_spec h
  cases ev.symm.trans e1
  cases hat.symm.trans e3
  cases (Term.int_eval j).symm.trans e2
  exact e5
theorem big_s {s : State} {args : Array Value} {T : Term} {g m : Int32} (hfit : Fit s) (w1 : (Cond.exactly T "java/math/BigInteger").before args s = true) (w2 : (Cond.eq (.field T "java/math/BigInteger" "signum" "I") (.int g)).before args s = true) (w3 : (Cond.arrayOf (.field T "java/math/BigInteger" "mag" "[I") .int).before args s = true) (w4 : (Cond.exactly (.field T "java/math/BigInteger" "mag" "[I") "[I").before args s = true) (w5 : (Cond.eq (.length (.field T "java/math/BigInteger" "mag" "[I")) (.int 1)).before args s = true) (w6 : (Cond.eq (.elem (.field T "java/math/BigInteger" "mag" "[I") (.int 0)) (.int m)).before args s = true) : ∃ (a t : Addr) (kt : ClassId), T.eval args s none [] s = some (.ref a) ∧ Exa s s.heap a "java/math/BigInteger" ∧ Fld s s.heap a "java/math/BigInteger" "signum" "I" (.int g) ∧ Fld s s.heap a "java/math/BigInteger" "mag" "[I" (.ref t) ∧ Arv s s.heap t kt .int 1 [.int m] (.int 0) ∧ Exa s s.heap t "[I" := by
  have v1 := Cond.before_iff.mp w1
  have v4 := Cond.before_iff.mp w4
  obtain ⟨a, ea⟩ := exa_v v1
  obtain ⟨t, et⟩ := exa_v v4
  obtain ⟨cl, A, q, e, hat⟩ := arr_s et (Cond.before_iff.mp w3) (Cond.before_iff.mp w5)
  have e0 := elem_s et hat (eqv_i (Term.int_eval m) (Cond.before_iff.mp w6))
  exact ⟨a, t, cl.cls, ea, Exa.start ea v1, fld_s ea (eqv_i (Term.int_eval g) (Cond.before_iff.mp w2)), fld_s ea et, Arv.start hfit A q e (by decide) rfl ⟨e0, trivial⟩, Exa.start et v4⟩
theorem zero_s {s : State} {args : Array Value} {T : Term} (hfit : Fit s) (w1 : (Cond.exactly T "java/math/BigInteger").before args s = true) (w2 : (Cond.eq (.field T "java/math/BigInteger" "signum" "I") (.int 0)).before args s = true) (w3 : (Cond.arrayOf (.field T "java/math/BigInteger" "mag" "[I") .int).before args s = true) (w4 : (Cond.exactly (.field T "java/math/BigInteger" "mag" "[I") "[I").before args s = true) (w5 : (Cond.eq (.length (.field T "java/math/BigInteger" "mag" "[I")) (.int 0)).before args s = true) : ∃ (a t : Addr) (kt : ClassId), T.eval args s none [] s = some (.ref a) ∧ Exa s s.heap a "java/math/BigInteger" ∧ Fld s s.heap a "java/math/BigInteger" "signum" "I" (.int 0) ∧ Fld s s.heap a "java/math/BigInteger" "mag" "[I" (.ref t) ∧ Arv s s.heap t kt .int 0 [] (.int 0) ∧ Exa s s.heap t "[I" := by
  have v1 := Cond.before_iff.mp w1
  have v4 := Cond.before_iff.mp w4
  obtain ⟨a, ea⟩ := exa_v v1
  obtain ⟨t, et⟩ := exa_v v4
  obtain ⟨cl, A, q, e, hat⟩ := arr_s et (Cond.before_iff.mp w3) (Cond.before_iff.mp w5)
  exact ⟨a, t, cl.cls, ea, Exa.start ea v1, fld_s ea (eqv_i (Term.int_eval 0) (Cond.before_iff.mp w2)), fld_s ea et, Arv.start hfit A q e (by decide) rfl trivial, Exa.start et v4⟩
theorem hasL_list {c : Cell} : ∀ (vs : List Value) (i : Nat), (∀ j, j < vs.length → c.slots[i + j]? = vs[j]?) → HasL c i vs
  | [], _, _ => trivial
  | v :: r, i, h => ⟨by have := h 0 (by simp); simpa using this, hasL_list r (i + 1) (fun j hj => by
      have := h (j + 1) (by simpa using hj)
      rw [show i + 1 + j = i + (j + 1) by omega]; simpa using this)⟩
theorem arvT {s : State} {a : Addr} {cl : Cell} {ty : FieldType} {n : Int32} {d : Value} (hfit : Fit s) (A : Arr s s.heap a cl ty) (q : cl.slots.size < 2 ^ 31) (e : cl.slots.size.toInt32 = n) (hn : ¬ n < 0) : Arv s s.heap a cl.cls ty n cl.slots.toList d :=
  Arv.start hfit A q e hn (by rw [← e]; simp only [Int32.toNatClampNeg, len_toInt q]; simp) (hasL_list _ 0 (fun j hj => by simp))
theorem held_s {s : State} {args : Array Value} {t : Term} {p : Addr} {cl : Cell} {i k g m : Int32} {v : Int64} (ev : t.eval args s none [] s = some (.ref p)) (hat : s.arrayAt? p = some cl) (B : ∃ (a t' : Addr) (kt : ClassId), (Term.elem t (.int i)).eval args s none [] s = some (.ref a) ∧ Exa s s.heap a "java/math/BigInteger" ∧ Fld s s.heap a "java/math/BigInteger" "signum" "I" (.int g) ∧ Fld s s.heap a "java/math/BigInteger" "mag" "[I" (.ref t') ∧ Arv s s.heap t' kt .int 1 [.int m] (.int 0) ∧ Exa s s.heap t' "[I") (hi : i = k) (hg : g = sgv v) (hm : m = lov v) : Held s cl.slots.toList k v := by
  subst hi hg hm
  obtain ⟨a, t', kt, e, r⟩ := B
  refine ⟨a, t', kt, ?_, r⟩
  have z := elem_s ev hat e
  rw [List.getD_eq_getElem?_getD, Array.getElem?_toList, z]; rfl
theorem v16 {v : Int64} (h : (0 : Int64) < v) (h2 : ¬ (16 : Int64) < v) : v = 1 ∨ v = 2 ∨ v = 3 ∨ v = 4 ∨ v = 5 ∨ v = 6 ∨ v = 7 ∨ v = 8 ∨ v = 9 ∨ v = 10 ∨ v = 11 ∨ v = 12 ∨ v = 13 ∨ v = 14 ∨ v = 15 ∨ v = 16 := by
  rw [Int64.lt_iff_toInt_lt] at h h2
  simp only [← Int64.toInt_inj]
  have o0 : (0 : Int64).toInt = 0 := rfl
  have o1 : (1 : Int64).toInt = 1 := rfl
  have o2 : (2 : Int64).toInt = 2 := rfl
  have o3 : (3 : Int64).toInt = 3 := rfl
  have o4 : (4 : Int64).toInt = 4 := rfl
  have o5 : (5 : Int64).toInt = 5 := rfl
  have o6 : (6 : Int64).toInt = 6 := rfl
  have o7 : (7 : Int64).toInt = 7 := rfl
  have o8 : (8 : Int64).toInt = 8 := rfl
  have o9 : (9 : Int64).toInt = 9 := rfl
  have o10 : (10 : Int64).toInt = 10 := rfl
  have o11 : (11 : Int64).toInt = 11 := rfl
  have o12 : (12 : Int64).toInt = 12 := rfl
  have o13 : (13 : Int64).toInt = 13 := rfl
  have o14 : (14 : Int64).toInt = 14 := rfl
  have o15 : (15 : Int64).toInt = 15 := rfl
  have o16 : (16 : Int64).toInt = 16 := rfl
  omega
theorem vm16 {v : Int64} (h : v < (0 : Int64)) (h2 : ¬ v < (-16 : Int64)) : v = -1 ∨ v = -2 ∨ v = -3 ∨ v = -4 ∨ v = -5 ∨ v = -6 ∨ v = -7 ∨ v = -8 ∨ v = -9 ∨ v = -10 ∨ v = -11 ∨ v = -12 ∨ v = -13 ∨ v = -14 ∨ v = -15 ∨ v = -16 := by
  rw [Int64.lt_iff_toInt_lt] at h h2
  simp only [← Int64.toInt_inj]
  have o0 : (0 : Int64).toInt = 0 := rfl
  have o1 : (-1 : Int64).toInt = -1 := by decide
  have o2 : (-2 : Int64).toInt = -2 := by decide
  have o3 : (-3 : Int64).toInt = -3 := by decide
  have o4 : (-4 : Int64).toInt = -4 := by decide
  have o5 : (-5 : Int64).toInt = -5 := by decide
  have o6 : (-6 : Int64).toInt = -6 := by decide
  have o7 : (-7 : Int64).toInt = -7 := by decide
  have o8 : (-8 : Int64).toInt = -8 := by decide
  have o9 : (-9 : Int64).toInt = -9 := by decide
  have o10 : (-10 : Int64).toInt = -10 := by decide
  have o11 : (-11 : Int64).toInt = -11 := by decide
  have o12 : (-12 : Int64).toInt = -12 := by decide
  have o13 : (-13 : Int64).toInt = -13 := by decide
  have o14 : (-14 : Int64).toInt = -14 := by decide
  have o15 : (-15 : Int64).toInt = -15 := by decide
  have o16 : (-16 : Int64).toInt = -16 := by decide
  omega

def Amb (Z : State) (a0 : Array Value) (one : Addr) (t1 : Addr) (zero : Addr) (t0 : Addr) (pos : Addr) (neg : Addr) (k1 : ClassId) (k0 : ClassId) (kp : ClassId) (kn : ClassId) (pvs : List Value) (nvs : List Value) : Prop := Sta Z Z.heap "java/math/BigInteger" "ONE" "Ljava/math/BigInteger;" (.ref one) ∧ Sta Z Z.heap "java/math/BigInteger" "ZERO" "Ljava/math/BigInteger;" (.ref zero) ∧ Sta Z Z.heap "java/math/BigInteger" "posConst" "[Ljava/math/BigInteger;" (.ref pos) ∧ Sta Z Z.heap "java/math/BigInteger" "negConst" "[Ljava/math/BigInteger;" (.ref neg) ∧ Exa Z Z.heap one "java/math/BigInteger" ∧ Fld Z Z.heap one "java/math/BigInteger" "signum" "I" (.int 1) ∧ Fld Z Z.heap one "java/math/BigInteger" "mag" "[I" (.ref t1) ∧ Arv Z Z.heap t1 k1 .int 1 [.int 1] (.int 0) ∧ Exa Z Z.heap t1 "[I" ∧ Exa Z Z.heap zero "java/math/BigInteger" ∧ Fld Z Z.heap zero "java/math/BigInteger" "signum" "I" (.int 0) ∧ Fld Z Z.heap zero "java/math/BigInteger" "mag" "[I" (.ref t0) ∧ Arv Z Z.heap t0 k0 .int 0 [] (.int 0) ∧ Exa Z Z.heap t0 "[I" ∧ Arv Z Z.heap pos kp (.object "java/math/BigInteger") (17 : Int32) pvs .null ∧ Arv Z Z.heap neg kn (.object "java/math/BigInteger") (17 : Int32) nvs .null ∧ pvs.getD (1 : Int32).toNatClampNeg .null = .ref one ∧ (∀ v : Int64, (0 : Int64) < v → ¬ (16 : Int64) < v → Held Z pvs v.toInt32 v) ∧ (∀ v : Int64, v < (0 : Int64) → ¬ v < (-16 : Int64) → Held Z nvs (-v).toInt32 v)
abbrev y0 := jdk_18_method_1_code
abbrev y1 := jdk_2097_method_102_code
abbrev y2 := jdk_2097_method_121_code
abbrev y3 := jdk_2097_method_122_code
abbrev y4 := jdk_2097_method_124_code
abbrev y5 := jdk_2097_method_25_code
abbrev y6 := jdk_2097_method_29_code
abbrev y7 := jdk_2097_method_30_code
abbrev y8 := jdk_2097_method_40_code
abbrev y9 := jdk_2097_method_42_code
abbrev y10 := jdk_2097_method_43_code
abbrev y11 := jdk_2097_method_73_code
abbrev y12 := jdk_2097_method_74_code
abbrev y13 := jdk_2097_method_79_code
abbrev y14 := jdk_2097_method_81_code
abbrev y15 := jdk_2101_method_15_code
abbrev y16 := jdk_2101_method_18_code
abbrev y17 := jdk_2101_method_1_code
abbrev y18 := jdk_2101_method_21_code
abbrev y19 := jdk_2101_method_35_code
abbrev y20 := jdk_2101_method_41_code
abbrev y21 := jdk_2101_method_42_code
abbrev y22 := jdk_2101_method_4_code
abbrev y23 := jdk_2101_method_50_code
abbrev y24 := jdk_2101_method_72_code
abbrev y25 := jdk_2101_method_73_code
abbrev y26 := jdk_2101_method_74_code
abbrev y27 := jdk_2101_method_7_code
abbrev y28 := jdk_2101_method_9_code
abbrev y29 := jdk_29_method_59_code
abbrev y30 := jdk_33_method_47_code
abbrev y31 := jdk_33_method_48_code
abbrev y32 := jdk_33_method_49_code
abbrev y33 := jdk_65_method_123_code
abbrev y34 := prog_1_method_11_code
abbrev y35 := prog_1_method_19_code
abbrev y36 := prog_1_method_1_code
abbrev y37 := prog_1_method_20_code
abbrev y38 := prog_1_method_2_code
abbrev y39 := prog_1_method_3_code
abbrev y40 := prog_1_method_4_code
abbrev HW (a0 : Array Value) (Z : State) : Prop := ∀ d ∈ tables_1, d.before a0 Z = true
set_option maxRecDepth 65536
set_option maxHeartbeats 40000000
theorem d16_0 : decode y31 0 = .ok (.iload_n 0, 1) := by decide +kernel
theorem d16_1 : decode y31 1 = .ok (.iconst (-1), 1) := by decide +kernel
theorem d16_2 : decode y31 2 = .ok (.ixor, 1) := by decide +kernel
theorem d16_3 : decode y31 3 = .ok (.iload_n 0, 1) := by decide +kernel
theorem d16_4 : decode y31 4 = .ok (.iconst 1, 1) := by decide +kernel
theorem d16_5 : decode y31 5 = .ok (.isub, 1) := by decide +kernel
theorem d16_6 : decode y31 6 = .ok (.iand, 1) := by decide +kernel
theorem d16_7 : decode y31 7 = .ok (.istore_n 0, 1) := by decide +kernel
theorem d16_8 : decode y31 8 = .ok (.iload_n 0, 1) := by decide +kernel
theorem d16_9 : decode y31 9 = .ok (.ifCond .gt 8, 3) := by decide +kernel
theorem d16_12 : decode y31 12 = .ok (.iload_n 0, 1) := by decide +kernel
theorem d16_13 : decode y31 13 = .ok (.bipush 32, 2) := by decide +kernel
theorem d16_15 : decode y31 15 = .ok (.iand, 1) := by decide +kernel
theorem d16_16 : decode y31 16 = .ok (.ireturn, 1) := by decide +kernel
theorem pn_java_lang_Integer : plainName "java/lang/Integer" = true := by first | (simp [plainName, overriddenIn]; done) | decide +kernel
theorem d16_17 : decode y31 17 = .ok (.iconst 1, 1) := by decide +kernel
theorem d16_18 : decode y31 18 = .ok (.istore_n 1, 1) := by decide +kernel
theorem d16_19 : decode y31 19 = .ok (.iload_n 0, 1) := by decide +kernel
theorem d16_20 : decode y31 20 = .ok (.ldc_w 264, 3) := by decide +kernel
theorem d16_23 : decode y31 23 = .ok (.if_icmp .le 11, 3) := by decide +kernel
theorem d16_34 : decode y31 34 = .ok (.iload_n 0, 1) := by decide +kernel
theorem d16_35 : decode y31 35 = .ok (.sipush 256, 3) := by decide +kernel
theorem d16_38 : decode y31 38 = .ok (.if_icmp .le 11, 3) := by decide +kernel
theorem d16_49 : decode y31 49 = .ok (.iload_n 0, 1) := by decide +kernel
theorem d16_50 : decode y31 50 = .ok (.bipush 16, 2) := by decide +kernel
theorem d16_52 : decode y31 52 = .ok (.if_icmp .le 10, 3) := by decide +kernel
theorem d16_62 : decode y31 62 = .ok (.iload_n 0, 1) := by decide +kernel
theorem d16_63 : decode y31 63 = .ok (.iconst 4, 1) := by decide +kernel
theorem d16_64 : decode y31 64 = .ok (.if_icmp .le 10, 3) := by decide +kernel
theorem d16_74 : decode y31 74 = .ok (.iload_n 1, 1) := by decide +kernel
theorem d16_75 : decode y31 75 = .ok (.iload_n 0, 1) := by decide +kernel
theorem d16_76 : decode y31 76 = .ok (.iconst 1, 1) := by decide +kernel
theorem d16_77 : decode y31 77 = .ok (.iushr, 1) := by decide +kernel
theorem d16_78 : decode y31 78 = .ok (.iadd, 1) := by decide +kernel
theorem d16_79 : decode y31 79 = .ok (.ireturn, 1) := by decide +kernel
theorem d16_67 : decode y31 67 = .ok (.iinc 1 2, 3) := by decide +kernel
theorem d16_70 : decode y31 70 = .ok (.iload_n 0, 1) := by decide +kernel
theorem d16_71 : decode y31 71 = .ok (.iconst 2, 1) := by decide +kernel
theorem d16_72 : decode y31 72 = .ok (.iushr, 1) := by decide +kernel
theorem d16_73 : decode y31 73 = .ok (.istore_n 0, 1) := by decide +kernel
theorem d16_55 : decode y31 55 = .ok (.iinc 1 4, 3) := by decide +kernel
theorem d16_58 : decode y31 58 = .ok (.iload_n 0, 1) := by decide +kernel
theorem d16_59 : decode y31 59 = .ok (.iconst 4, 1) := by decide +kernel
theorem d16_60 : decode y31 60 = .ok (.iushr, 1) := by decide +kernel
theorem d16_61 : decode y31 61 = .ok (.istore_n 0, 1) := by decide +kernel
theorem d16_41 : decode y31 41 = .ok (.iinc 1 8, 3) := by decide +kernel
theorem d16_44 : decode y31 44 = .ok (.iload_n 0, 1) := by decide +kernel
theorem d16_45 : decode y31 45 = .ok (.bipush 8, 2) := by decide +kernel
theorem d16_47 : decode y31 47 = .ok (.iushr, 1) := by decide +kernel
theorem d16_48 : decode y31 48 = .ok (.istore_n 0, 1) := by decide +kernel
theorem d16_26 : decode y31 26 = .ok (.iinc 1 16, 3) := by decide +kernel
theorem d16_29 : decode y31 29 = .ok (.iload_n 0, 1) := by decide +kernel
theorem d16_30 : decode y31 30 = .ok (.bipush 16, 2) := by decide +kernel
theorem d16_32 : decode y31 32 = .ok (.iushr, 1) := by decide +kernel
theorem d16_33 : decode y31 33 = .ok (.istore_n 0, 1) := by decide +kernel
theorem d28_0 : decode y32 0 = .ok (.iload_n 0, 1) := by decide +kernel
theorem d28_1 : decode y32 1 = .ok (.iload_n 0, 1) := by decide +kernel
theorem d28_2 : decode y32 2 = .ok (.iconst 1, 1) := by decide +kernel
theorem d28_3 : decode y32 3 = .ok (.iushr, 1) := by decide +kernel
theorem d28_4 : decode y32 4 = .ok (.ldc_w 265, 3) := by decide +kernel
theorem d28_7 : decode y32 7 = .ok (.iand, 1) := by decide +kernel
theorem d28_8 : decode y32 8 = .ok (.isub, 1) := by decide +kernel
theorem d28_9 : decode y32 9 = .ok (.istore_n 0, 1) := by decide +kernel
theorem d28_10 : decode y32 10 = .ok (.iload_n 0, 1) := by decide +kernel
theorem d28_11 : decode y32 11 = .ok (.ldc_w 266, 3) := by decide +kernel
theorem d28_14 : decode y32 14 = .ok (.iand, 1) := by decide +kernel
theorem d28_15 : decode y32 15 = .ok (.iload_n 0, 1) := by decide +kernel
theorem d28_16 : decode y32 16 = .ok (.iconst 2, 1) := by decide +kernel
theorem d28_17 : decode y32 17 = .ok (.iushr, 1) := by decide +kernel
theorem d28_18 : decode y32 18 = .ok (.ldc_w 266, 3) := by decide +kernel
theorem d28_21 : decode y32 21 = .ok (.iand, 1) := by decide +kernel
theorem d28_22 : decode y32 22 = .ok (.iadd, 1) := by decide +kernel
theorem d28_23 : decode y32 23 = .ok (.istore_n 0, 1) := by decide +kernel
theorem d28_24 : decode y32 24 = .ok (.iload_n 0, 1) := by decide +kernel
theorem d28_25 : decode y32 25 = .ok (.iload_n 0, 1) := by decide +kernel
theorem d28_26 : decode y32 26 = .ok (.iconst 4, 1) := by decide +kernel
theorem d28_27 : decode y32 27 = .ok (.iushr, 1) := by decide +kernel
theorem d28_28 : decode y32 28 = .ok (.iadd, 1) := by decide +kernel
theorem d28_29 : decode y32 29 = .ok (.ldc_w 267, 3) := by decide +kernel
theorem d28_32 : decode y32 32 = .ok (.iand, 1) := by decide +kernel
theorem d28_33 : decode y32 33 = .ok (.istore_n 0, 1) := by decide +kernel
theorem d28_34 : decode y32 34 = .ok (.iload_n 0, 1) := by decide +kernel
theorem d28_35 : decode y32 35 = .ok (.iload_n 0, 1) := by decide +kernel
theorem d28_36 : decode y32 36 = .ok (.bipush 8, 2) := by decide +kernel
theorem d28_38 : decode y32 38 = .ok (.iushr, 1) := by decide +kernel
theorem d28_39 : decode y32 39 = .ok (.iadd, 1) := by decide +kernel
theorem d28_40 : decode y32 40 = .ok (.istore_n 0, 1) := by decide +kernel
theorem d28_41 : decode y32 41 = .ok (.iload_n 0, 1) := by decide +kernel
theorem d28_42 : decode y32 42 = .ok (.iload_n 0, 1) := by decide +kernel
theorem d28_43 : decode y32 43 = .ok (.bipush 16, 2) := by decide +kernel
theorem d28_45 : decode y32 45 = .ok (.iushr, 1) := by decide +kernel
theorem d28_46 : decode y32 46 = .ok (.iadd, 1) := by decide +kernel
theorem d28_47 : decode y32 47 = .ok (.istore_n 0, 1) := by decide +kernel
theorem d28_48 : decode y32 48 = .ok (.iload_n 0, 1) := by decide +kernel
theorem d28_49 : decode y32 49 = .ok (.bipush 63, 2) := by decide +kernel
theorem d28_51 : decode y32 51 = .ok (.iand, 1) := by decide +kernel
theorem d28_52 : decode y32 52 = .ok (.ireturn, 1) := by decide +kernel
theorem d36_0 : decode y30 0 = .ok (.iload_n 0, 1) := by decide +kernel
theorem d36_1 : decode y30 1 = .ok (.ifCond .gt 14, 3) := by decide +kernel
theorem d36_15 : decode y30 15 = .ok (.bipush 31, 2) := by decide +kernel
theorem d36_17 : decode y30 17 = .ok (.istore_n 1, 1) := by decide +kernel
theorem d36_18 : decode y30 18 = .ok (.iload_n 0, 1) := by decide +kernel
theorem d36_19 : decode y30 19 = .ok (.ldc_w 264, 3) := by decide +kernel
theorem d36_22 : decode y30 22 = .ok (.if_icmp .lt 11, 3) := by decide +kernel
theorem d36_33 : decode y30 33 = .ok (.iload_n 0, 1) := by decide +kernel
theorem d36_34 : decode y30 34 = .ok (.sipush 256, 3) := by decide +kernel
theorem d36_37 : decode y30 37 = .ok (.if_icmp .lt 11, 3) := by decide +kernel
theorem d36_48 : decode y30 48 = .ok (.iload_n 0, 1) := by decide +kernel
theorem d36_49 : decode y30 49 = .ok (.bipush 16, 2) := by decide +kernel
theorem d36_51 : decode y30 51 = .ok (.if_icmp .lt 10, 3) := by decide +kernel
theorem d36_61 : decode y30 61 = .ok (.iload_n 0, 1) := by decide +kernel
theorem d36_62 : decode y30 62 = .ok (.iconst 4, 1) := by decide +kernel
theorem d36_63 : decode y30 63 = .ok (.if_icmp .lt 10, 3) := by decide +kernel
theorem d36_73 : decode y30 73 = .ok (.iload_n 1, 1) := by decide +kernel
theorem d36_74 : decode y30 74 = .ok (.iload_n 0, 1) := by decide +kernel
theorem d36_75 : decode y30 75 = .ok (.iconst 1, 1) := by decide +kernel
theorem d36_76 : decode y30 76 = .ok (.iushr, 1) := by decide +kernel
theorem d36_77 : decode y30 77 = .ok (.isub, 1) := by decide +kernel
theorem d36_78 : decode y30 78 = .ok (.ireturn, 1) := by decide +kernel
theorem d36_66 : decode y30 66 = .ok (.iinc 1 (-2), 3) := by decide +kernel
theorem d36_69 : decode y30 69 = .ok (.iload_n 0, 1) := by decide +kernel
theorem d36_70 : decode y30 70 = .ok (.iconst 2, 1) := by decide +kernel
theorem d36_71 : decode y30 71 = .ok (.iushr, 1) := by decide +kernel
theorem d36_72 : decode y30 72 = .ok (.istore_n 0, 1) := by decide +kernel
theorem d36_54 : decode y30 54 = .ok (.iinc 1 (-4), 3) := by decide +kernel
theorem d36_57 : decode y30 57 = .ok (.iload_n 0, 1) := by decide +kernel
theorem d36_58 : decode y30 58 = .ok (.iconst 4, 1) := by decide +kernel
theorem d36_59 : decode y30 59 = .ok (.iushr, 1) := by decide +kernel
theorem d36_60 : decode y30 60 = .ok (.istore_n 0, 1) := by decide +kernel
theorem d36_40 : decode y30 40 = .ok (.iinc 1 (-8), 3) := by decide +kernel
theorem d36_43 : decode y30 43 = .ok (.iload_n 0, 1) := by decide +kernel
theorem d36_44 : decode y30 44 = .ok (.bipush 8, 2) := by decide +kernel
theorem d36_46 : decode y30 46 = .ok (.iushr, 1) := by decide +kernel
theorem d36_47 : decode y30 47 = .ok (.istore_n 0, 1) := by decide +kernel
theorem d36_25 : decode y30 25 = .ok (.iinc 1 (-16), 3) := by decide +kernel
theorem d36_28 : decode y30 28 = .ok (.iload_n 0, 1) := by decide +kernel
theorem d36_29 : decode y30 29 = .ok (.bipush 16, 2) := by decide +kernel
theorem d36_31 : decode y30 31 = .ok (.iushr, 1) := by decide +kernel
theorem d36_32 : decode y30 32 = .ok (.istore_n 0, 1) := by decide +kernel
theorem d36_4 : decode y30 4 = .ok (.iload_n 0, 1) := by decide +kernel
theorem d36_5 : decode y30 5 = .ok (.ifCond .ne 8, 3) := by decide +kernel
theorem d36_13 : decode y30 13 = .ok (.iconst 0, 1) := by decide +kernel
theorem d36_14 : decode y30 14 = .ok (.ireturn, 1) := by decide +kernel
theorem d35_0 : decode y12 0 = .ok (.bipush 32, 2) := by decide +kernel
theorem d35_2 : decode y12 2 = .ok (.iload_n 0, 1) := by decide +kernel
theorem d35_3 : decode y12 3 = .ok (.invokestatic 602, 3) := by decide +kernel
theorem pd__I_I : parseMethodDescriptor "(I)I" = some ⟨[.int], some .int⟩ := by decide +kernel
theorem d35_6 : decode y12 6 = .ok (.isub, 1) := by decide +kernel
theorem d35_7 : decode y12 7 = .ok (.ireturn, 1) := by decide +kernel
theorem pn_java_math_BigInteger : plainName "java/math/BigInteger" = true := by first | (simp [plainName, overriddenIn]; done) | decide +kernel
theorem d18_42 : decode y26 42 = .ok (.iload_n 0, 1) := by decide +kernel
theorem d18_43 : decode y26 43 = .ok (.iload_n 1, 1) := by decide +kernel
theorem d18_44 : decode y26 44 = .ok (.if_icmp .eq 42, 3) := by decide +kernel
theorem d18_86 : decode y26 86 = .ok (.iload_n 0, 1) := by decide +kernel
theorem d18_87 : decode y26 87 = .ok (.iload 4, 2) := by decide +kernel
theorem d18_89 : decode y26 89 = .ok (.ishl, 1) := by decide +kernel
theorem d18_90 : decode y26 90 = .ok (.ireturn, 1) := by decide +kernel
theorem d18_47 : decode y26 47 = .ok (.iload_n 0, 1) := by decide +kernel
theorem d18_48 : decode y26 48 = .ok (.ldc 88, 2) := by decide +kernel
theorem d18_50 : decode y26 50 = .ok (.iadd, 1) := by decide +kernel
theorem d18_51 : decode y26 51 = .ok (.iload_n 1, 1) := by decide +kernel
theorem d18_52 : decode y26 52 = .ok (.ldc 88, 2) := by decide +kernel
theorem d18_54 : decode y26 54 = .ok (.iadd, 1) := by decide +kernel
theorem d18_55 : decode y26 55 = .ok (.if_icmp .le 17, 3) := by decide +kernel
theorem d18_58 : decode y26 58 = .ok (.iload_n 0, 1) := by decide +kernel
theorem d18_59 : decode y26 59 = .ok (.iload_n 1, 1) := by decide +kernel
theorem d18_60 : decode y26 60 = .ok (.isub, 1) := by decide +kernel
theorem d18_61 : decode y26 61 = .ok (.istore_n 0, 1) := by decide +kernel
theorem d18_62 : decode y26 62 = .ok (.iload_n 0, 1) := by decide +kernel
theorem d18_63 : decode y26 63 = .ok (.iload_n 0, 1) := by decide +kernel
theorem d18_64 : decode y26 64 = .ok (.invokestatic 89, 3) := by decide +kernel
theorem d18_67 : decode y26 67 = .ok (.iushr, 1) := by decide +kernel
theorem d18_68 : decode y26 68 = .ok (.istore_n 0, 1) := by decide +kernel
theorem d18_69 : decode y26 69 = .ok (.goto (-27), 3) := by decide +kernel
theorem d18_0 : decode y26 0 = .ok (.iload_n 1, 1) := by decide +kernel
theorem d18_1 : decode y26 1 = .ok (.ifCond .ne 5, 3) := by decide +kernel
theorem d18_6 : decode y26 6 = .ok (.iload_n 0, 1) := by decide +kernel
theorem d18_7 : decode y26 7 = .ok (.ifCond .ne 5, 3) := by decide +kernel
theorem d18_12 : decode y26 12 = .ok (.iload_n 0, 1) := by decide +kernel
theorem d18_13 : decode y26 13 = .ok (.invokestatic 89, 3) := by decide +kernel
theorem d18_16 : decode y26 16 = .ok (.istore_n 2, 1) := by decide +kernel
theorem d18_17 : decode y26 17 = .ok (.iload_n 1, 1) := by decide +kernel
theorem d18_18 : decode y26 18 = .ok (.invokestatic 89, 3) := by decide +kernel
theorem d18_21 : decode y26 21 = .ok (.istore_n 3, 1) := by decide +kernel
theorem d18_22 : decode y26 22 = .ok (.iload_n 0, 1) := by decide +kernel
theorem d18_23 : decode y26 23 = .ok (.iload_n 2, 1) := by decide +kernel
theorem d18_24 : decode y26 24 = .ok (.iushr, 1) := by decide +kernel
theorem d18_25 : decode y26 25 = .ok (.istore_n 0, 1) := by decide +kernel
theorem d18_26 : decode y26 26 = .ok (.iload_n 1, 1) := by decide +kernel
theorem d18_27 : decode y26 27 = .ok (.iload_n 3, 1) := by decide +kernel
theorem d18_28 : decode y26 28 = .ok (.iushr, 1) := by decide +kernel
theorem d18_29 : decode y26 29 = .ok (.istore_n 1, 1) := by decide +kernel
theorem d18_30 : decode y26 30 = .ok (.iload_n 2, 1) := by decide +kernel
theorem d18_31 : decode y26 31 = .ok (.iload_n 3, 1) := by decide +kernel
theorem d18_32 : decode y26 32 = .ok (.if_icmp .ge 7, 3) := by decide +kernel
theorem d18_39 : decode y26 39 = .ok (.iload_n 3, 1) := by decide +kernel
theorem d18_40 : decode y26 40 = .ok (.istore 4, 2) := by decide +kernel
theorem pn_java_math_MutableBigInteger : plainName "java/math/MutableBigInteger" = true := by first | (simp [plainName, overriddenIn]; done) | decide +kernel
theorem d15_0 : decode y16 0 = .ok (.aload_n 0, 1) := by decide +kernel
theorem d15_1 : decode y16 1 = .ok (.getfield 21, 3) := by decide +kernel
theorem d15_4 : decode y16 4 = .ok (.ifCond .ne 5, 3) := by decide +kernel
theorem d15_9 : decode y16 9 = .ok (.aload_n 0, 1) := by decide +kernel
theorem d15_10 : decode y16 10 = .ok (.getfield 21, 3) := by decide +kernel
theorem d15_13 : decode y16 13 = .ok (.iconst 1, 1) := by decide +kernel
theorem d15_14 : decode y16 14 = .ok (.isub, 1) := by decide +kernel
theorem d15_15 : decode y16 15 = .ok (.istore_n 1, 1) := by decide +kernel
theorem d15_16 : decode y16 16 = .ok (.iload_n 1, 1) := by decide +kernel
theorem d15_17 : decode y16 17 = .ok (.ifCond .le 23, 3) := by decide +kernel
theorem d15_40 : decode y16 40 = .ok (.aload_n 0, 1) := by decide +kernel
theorem d15_41 : decode y16 41 = .ok (.getfield 17, 3) := by decide +kernel
theorem d15_44 : decode y16 44 = .ok (.iload_n 1, 1) := by decide +kernel
theorem d15_45 : decode y16 45 = .ok (.aload_n 0, 1) := by decide +kernel
theorem d15_46 : decode y16 46 = .ok (.getfield 11, 3) := by decide +kernel
theorem d15_49 : decode y16 49 = .ok (.iadd, 1) := by decide +kernel
theorem d15_50 : decode y16 50 = .ok (.iaload, 1) := by decide +kernel
theorem d15_51 : decode y16 51 = .ok (.istore_n 2, 1) := by decide +kernel
theorem d15_52 : decode y16 52 = .ok (.iload_n 2, 1) := by decide +kernel
theorem d15_53 : decode y16 53 = .ok (.ifCond .ne 5, 3) := by decide +kernel
theorem d15_58 : decode y16 58 = .ok (.aload_n 0, 1) := by decide +kernel
theorem d15_59 : decode y16 59 = .ok (.getfield 21, 3) := by decide +kernel
theorem d15_62 : decode y16 62 = .ok (.iconst 1, 1) := by decide +kernel
theorem d15_63 : decode y16 63 = .ok (.isub, 1) := by decide +kernel
theorem d15_64 : decode y16 64 = .ok (.iload_n 1, 1) := by decide +kernel
theorem d15_65 : decode y16 65 = .ok (.isub, 1) := by decide +kernel
theorem d15_66 : decode y16 66 = .ok (.iconst 5, 1) := by decide +kernel
theorem d15_67 : decode y16 67 = .ok (.ishl, 1) := by decide +kernel
theorem d15_68 : decode y16 68 = .ok (.iload_n 2, 1) := by decide +kernel
theorem d15_69 : decode y16 69 = .ok (.invokestatic 89, 3) := by decide +kernel
theorem d15_72 : decode y16 72 = .ok (.iadd, 1) := by decide +kernel
theorem d15_73 : decode y16 73 = .ok (.ireturn, 1) := by decide +kernel
theorem d15_20 : decode y16 20 = .ok (.aload_n 0, 1) := by decide +kernel
theorem d15_21 : decode y16 21 = .ok (.getfield 17, 3) := by decide +kernel
theorem d15_24 : decode y16 24 = .ok (.iload_n 1, 1) := by decide +kernel
theorem d15_25 : decode y16 25 = .ok (.aload_n 0, 1) := by decide +kernel
theorem d15_26 : decode y16 26 = .ok (.getfield 11, 3) := by decide +kernel
theorem d15_29 : decode y16 29 = .ok (.iadd, 1) := by decide +kernel
theorem d15_30 : decode y16 30 = .ok (.iaload, 1) := by decide +kernel
theorem d15_31 : decode y16 31 = .ok (.ifCond .ne 9, 3) := by decide +kernel
theorem d15_34 : decode y16 34 = .ok (.iinc 1 (-1), 3) := by decide +kernel
theorem d15_37 : decode y16 37 = .ok (.goto (-21), 3) := by decide +kernel
theorem d37_0 : decode y20 0 = .ok (.aload_n 0, 1) := by decide +kernel
theorem d37_1 : decode y20 1 = .ok (.getfield 17, 3) := by decide +kernel
theorem d37_4 : decode y20 4 = .ok (.astore_n 2, 1) := by decide +kernel
theorem d37_5 : decode y20 5 = .ok (.bipush 32, 2) := by decide +kernel
theorem d37_7 : decode y20 7 = .ok (.iload_n 1, 1) := by decide +kernel
theorem d37_8 : decode y20 8 = .ok (.isub, 1) := by decide +kernel
theorem d37_9 : decode y20 9 = .ok (.istore_n 3, 1) := by decide +kernel
theorem d37_10 : decode y20 10 = .ok (.aload_n 0, 1) := by decide +kernel
theorem d37_11 : decode y20 11 = .ok (.getfield 11, 3) := by decide +kernel
theorem d37_14 : decode y20 14 = .ok (.aload_n 0, 1) := by decide +kernel
theorem d37_15 : decode y20 15 = .ok (.getfield 21, 3) := by decide +kernel
theorem d37_18 : decode y20 18 = .ok (.iadd, 1) := by decide +kernel
theorem d37_19 : decode y20 19 = .ok (.iconst 1, 1) := by decide +kernel
theorem d37_20 : decode y20 20 = .ok (.isub, 1) := by decide +kernel
theorem d37_21 : decode y20 21 = .ok (.istore 4, 2) := by decide +kernel
theorem d37_23 : decode y20 23 = .ok (.aload_n 2, 1) := by decide +kernel
theorem d37_24 : decode y20 24 = .ok (.iload 4, 2) := by decide +kernel
theorem d37_26 : decode y20 26 = .ok (.iaload, 1) := by decide +kernel
theorem d37_27 : decode y20 27 = .ok (.istore 5, 2) := by decide +kernel
theorem d37_29 : decode y20 29 = .ok (.iload 4, 2) := by decide +kernel
theorem d37_31 : decode y20 31 = .ok (.aload_n 0, 1) := by decide +kernel
theorem d37_32 : decode y20 32 = .ok (.getfield 11, 3) := by decide +kernel
theorem d37_35 : decode y20 35 = .ok (.if_icmp .le 34, 3) := by decide +kernel
theorem d37_69 : decode y20 69 = .ok (.aload_n 2, 1) := by decide +kernel
theorem d37_70 : decode y20 70 = .ok (.aload_n 0, 1) := by decide +kernel
theorem d37_71 : decode y20 71 = .ok (.getfield 11, 3) := by decide +kernel
theorem d37_74 : decode y20 74 = .ok (.dup2, 1) := by decide +kernel
theorem d37_75 : decode y20 75 = .ok (.iaload, 1) := by decide +kernel
theorem d37_76 : decode y20 76 = .ok (.iload_n 1, 1) := by decide +kernel
theorem d37_77 : decode y20 77 = .ok (.iushr, 1) := by decide +kernel
theorem d37_78 : decode y20 78 = .ok (.iastore, 1) := by decide +kernel
theorem d37_79 : decode y20 79 = .ok (.return_, 1) := by decide +kernel
theorem d37_38 : decode y20 38 = .ok (.iload 5, 2) := by decide +kernel
theorem d37_40 : decode y20 40 = .ok (.istore 6, 2) := by decide +kernel
theorem d37_42 : decode y20 42 = .ok (.aload_n 2, 1) := by decide +kernel
theorem d37_43 : decode y20 43 = .ok (.iload 4, 2) := by decide +kernel
theorem d37_45 : decode y20 45 = .ok (.iconst 1, 1) := by decide +kernel
theorem d37_46 : decode y20 46 = .ok (.isub, 1) := by decide +kernel
theorem d37_47 : decode y20 47 = .ok (.iaload, 1) := by decide +kernel
theorem d37_48 : decode y20 48 = .ok (.istore 5, 2) := by decide +kernel
theorem d37_50 : decode y20 50 = .ok (.aload_n 2, 1) := by decide +kernel
theorem d37_51 : decode y20 51 = .ok (.iload 4, 2) := by decide +kernel
theorem d37_53 : decode y20 53 = .ok (.iload 5, 2) := by decide +kernel
theorem d37_55 : decode y20 55 = .ok (.iload_n 3, 1) := by decide +kernel
theorem d37_56 : decode y20 56 = .ok (.ishl, 1) := by decide +kernel
theorem d37_57 : decode y20 57 = .ok (.iload 6, 2) := by decide +kernel
theorem d37_59 : decode y20 59 = .ok (.iload_n 1, 1) := by decide +kernel
theorem d37_60 : decode y20 60 = .ok (.iushr, 1) := by decide +kernel
theorem d37_61 : decode y20 61 = .ok (.ior, 1) := by decide +kernel
theorem d37_62 : decode y20 62 = .ok (.iastore, 1) := by decide +kernel
theorem d37_63 : decode y20 63 = .ok (.iinc 4 (-1), 3) := by decide +kernel
theorem d37_66 : decode y20 66 = .ok (.goto (-37), 3) := by decide +kernel
theorem d41_0 : decode y21 0 = .ok (.aload_n 0, 1) := by decide +kernel
theorem d41_1 : decode y21 1 = .ok (.getfield 17, 3) := by decide +kernel
theorem d41_4 : decode y21 4 = .ok (.astore_n 2, 1) := by decide +kernel
theorem d41_5 : decode y21 5 = .ok (.bipush 32, 2) := by decide +kernel
theorem d41_7 : decode y21 7 = .ok (.iload_n 1, 1) := by decide +kernel
theorem d41_8 : decode y21 8 = .ok (.isub, 1) := by decide +kernel
theorem d41_9 : decode y21 9 = .ok (.istore_n 3, 1) := by decide +kernel
theorem d41_10 : decode y21 10 = .ok (.aload_n 0, 1) := by decide +kernel
theorem d41_11 : decode y21 11 = .ok (.getfield 11, 3) := by decide +kernel
theorem d41_14 : decode y21 14 = .ok (.istore 4, 2) := by decide +kernel
theorem d41_16 : decode y21 16 = .ok (.aload_n 2, 1) := by decide +kernel
theorem d41_17 : decode y21 17 = .ok (.iload 4, 2) := by decide +kernel
theorem d41_19 : decode y21 19 = .ok (.iaload, 1) := by decide +kernel
theorem d41_20 : decode y21 20 = .ok (.istore 5, 2) := by decide +kernel
theorem d41_22 : decode y21 22 = .ok (.iload 4, 2) := by decide +kernel
theorem d41_24 : decode y21 24 = .ok (.aload_n 0, 1) := by decide +kernel
theorem d41_25 : decode y21 25 = .ok (.getfield 21, 3) := by decide +kernel
theorem d41_28 : decode y21 28 = .ok (.iadd, 1) := by decide +kernel
theorem d41_29 : decode y21 29 = .ok (.iconst 1, 1) := by decide +kernel
theorem d41_30 : decode y21 30 = .ok (.isub, 1) := by decide +kernel
theorem d41_31 : decode y21 31 = .ok (.istore 6, 2) := by decide +kernel
theorem d41_33 : decode y21 33 = .ok (.iload 4, 2) := by decide +kernel
theorem d41_35 : decode y21 35 = .ok (.iload 6, 2) := by decide +kernel
theorem d41_37 : decode y21 37 = .ok (.if_icmp .ge 34, 3) := by decide +kernel
theorem d41_40 : decode y21 40 = .ok (.iload 5, 2) := by decide +kernel
theorem d41_42 : decode y21 42 = .ok (.istore 7, 2) := by decide +kernel
theorem d41_44 : decode y21 44 = .ok (.aload_n 2, 1) := by decide +kernel
theorem d41_45 : decode y21 45 = .ok (.iload 4, 2) := by decide +kernel
theorem d41_47 : decode y21 47 = .ok (.iconst 1, 1) := by decide +kernel
theorem d41_48 : decode y21 48 = .ok (.iadd, 1) := by decide +kernel
theorem d41_49 : decode y21 49 = .ok (.iaload, 1) := by decide +kernel
theorem d41_50 : decode y21 50 = .ok (.istore 5, 2) := by decide +kernel
theorem d41_52 : decode y21 52 = .ok (.aload_n 2, 1) := by decide +kernel
theorem d41_53 : decode y21 53 = .ok (.iload 4, 2) := by decide +kernel
theorem d41_55 : decode y21 55 = .ok (.iload 7, 2) := by decide +kernel
theorem d41_57 : decode y21 57 = .ok (.iload_n 1, 1) := by decide +kernel
theorem d41_58 : decode y21 58 = .ok (.ishl, 1) := by decide +kernel
theorem d41_59 : decode y21 59 = .ok (.iload 5, 2) := by decide +kernel
theorem d41_61 : decode y21 61 = .ok (.iload_n 3, 1) := by decide +kernel
theorem d41_62 : decode y21 62 = .ok (.iushr, 1) := by decide +kernel
theorem d41_63 : decode y21 63 = .ok (.ior, 1) := by decide +kernel
theorem d41_64 : decode y21 64 = .ok (.iastore, 1) := by decide +kernel
theorem d41_65 : decode y21 65 = .ok (.iinc 4 1, 3) := by decide +kernel
theorem d41_68 : decode y21 68 = .ok (.goto (-35), 3) := by decide +kernel
theorem d41_71 : decode y21 71 = .ok (.aload_n 2, 1) := by decide +kernel
theorem d41_72 : decode y21 72 = .ok (.aload_n 0, 1) := by decide +kernel
theorem d41_73 : decode y21 73 = .ok (.getfield 11, 3) := by decide +kernel
theorem d41_76 : decode y21 76 = .ok (.aload_n 0, 1) := by decide +kernel
theorem d41_77 : decode y21 77 = .ok (.getfield 21, 3) := by decide +kernel
theorem d41_80 : decode y21 80 = .ok (.iadd, 1) := by decide +kernel
theorem d41_81 : decode y21 81 = .ok (.iconst 1, 1) := by decide +kernel
theorem d41_82 : decode y21 82 = .ok (.isub, 1) := by decide +kernel
theorem d41_83 : decode y21 83 = .ok (.dup2, 1) := by decide +kernel
theorem d41_84 : decode y21 84 = .ok (.iaload, 1) := by decide +kernel
theorem d41_85 : decode y21 85 = .ok (.iload_n 1, 1) := by decide +kernel
theorem d41_86 : decode y21 86 = .ok (.ishl, 1) := by decide +kernel
theorem d41_87 : decode y21 87 = .ok (.iastore, 1) := by decide +kernel
theorem d41_88 : decode y21 88 = .ok (.return_, 1) := by decide +kernel
theorem d17_0 : decode y19 0 = .ok (.aload_n 0, 1) := by decide +kernel
theorem d17_1 : decode y19 1 = .ok (.getfield 21, 3) := by decide +kernel
theorem d17_4 : decode y19 4 = .ok (.ifCond .ne 4, 3) := by decide +kernel
theorem d17_8 : decode y19 8 = .ok (.iload_n 1, 1) := by decide +kernel
theorem d17_9 : decode y19 9 = .ok (.iconst 5, 1) := by decide +kernel
theorem d17_10 : decode y19 10 = .ok (.iushr, 1) := by decide +kernel
theorem d17_11 : decode y19 11 = .ok (.istore_n 2, 1) := by decide +kernel
theorem d17_12 : decode y19 12 = .ok (.iload_n 1, 1) := by decide +kernel
theorem d17_13 : decode y19 13 = .ok (.bipush 31, 2) := by decide +kernel
theorem d17_15 : decode y19 15 = .ok (.iand, 1) := by decide +kernel
theorem d17_16 : decode y19 16 = .ok (.istore_n 3, 1) := by decide +kernel
theorem d17_17 : decode y19 17 = .ok (.aload_n 0, 1) := by decide +kernel
theorem d17_18 : decode y19 18 = .ok (.dup, 1) := by decide +kernel
theorem d17_19 : decode y19 19 = .ok (.getfield 21, 3) := by decide +kernel
theorem d17_22 : decode y19 22 = .ok (.iload_n 2, 1) := by decide +kernel
theorem d17_23 : decode y19 23 = .ok (.isub, 1) := by decide +kernel
theorem d17_24 : decode y19 24 = .ok (.putfield 21, 3) := by decide +kernel
theorem d17_27 : decode y19 27 = .ok (.iload_n 3, 1) := by decide +kernel
theorem d17_28 : decode y19 28 = .ok (.ifCond .ne 4, 3) := by decide +kernel
theorem d17_31 : decode y19 31 = .ok (.return_, 1) := by decide +kernel
theorem d17_32 : decode y19 32 = .ok (.aload_n 0, 1) := by decide +kernel
theorem d17_33 : decode y19 33 = .ok (.getfield 17, 3) := by decide +kernel
theorem d17_36 : decode y19 36 = .ok (.aload_n 0, 1) := by decide +kernel
theorem d17_37 : decode y19 37 = .ok (.getfield 11, 3) := by decide +kernel
theorem d17_40 : decode y19 40 = .ok (.iaload, 1) := by decide +kernel
theorem d17_41 : decode y19 41 = .ok (.invokestatic 112, 3) := by decide +kernel
theorem d17_44 : decode y19 44 = .ok (.istore 4, 2) := by decide +kernel
theorem d17_46 : decode y19 46 = .ok (.iload_n 3, 1) := by decide +kernel
theorem d17_47 : decode y19 47 = .ok (.iload 4, 2) := by decide +kernel
theorem d17_49 : decode y19 49 = .ok (.if_icmp .lt 24, 3) := by decide +kernel
theorem d17_73 : decode y19 73 = .ok (.aload_n 0, 1) := by decide +kernel
theorem d17_74 : decode y19 74 = .ok (.iload_n 3, 1) := by decide +kernel
theorem d17_75 : decode y19 75 = .ok (.invokevirtual 118, 3) := by decide +kernel
theorem pd__I_V : parseMethodDescriptor "(I)V" = some ⟨[.int], none⟩ := by decide +kernel
theorem d17_78 : decode y19 78 = .ok (.return_, 1) := by decide +kernel
theorem d17_52 : decode y19 52 = .ok (.aload_n 0, 1) := by decide +kernel
theorem d17_53 : decode y19 53 = .ok (.bipush 32, 2) := by decide +kernel
theorem d17_55 : decode y19 55 = .ok (.iload_n 3, 1) := by decide +kernel
theorem d17_56 : decode y19 56 = .ok (.isub, 1) := by decide +kernel
theorem d17_57 : decode y19 57 = .ok (.invokevirtual 115, 3) := by decide +kernel
theorem d17_60 : decode y19 60 = .ok (.aload_n 0, 1) := by decide +kernel
theorem d17_61 : decode y19 61 = .ok (.dup, 1) := by decide +kernel
theorem d17_62 : decode y19 62 = .ok (.getfield 21, 3) := by decide +kernel
theorem d17_65 : decode y19 65 = .ok (.iconst 1, 1) := by decide +kernel
theorem d17_66 : decode y19 66 = .ok (.isub, 1) := by decide +kernel
theorem d17_67 : decode y19 67 = .ok (.putfield 21, 3) := by decide +kernel
theorem d17_70 : decode y19 70 = .ok (.goto 8, 3) := by decide +kernel
theorem d39_0 : decode y15 0 = .ok (.aload_n 1, 1) := by decide +kernel
theorem d39_1 : decode y15 1 = .ok (.getfield 21, 3) := by decide +kernel
theorem d39_4 : decode y15 4 = .ok (.istore_n 2, 1) := by decide +kernel
theorem d39_5 : decode y15 5 = .ok (.aload_n 0, 1) := by decide +kernel
theorem d39_6 : decode y15 6 = .ok (.getfield 21, 3) := by decide +kernel
theorem d39_9 : decode y15 9 = .ok (.iload_n 2, 1) := by decide +kernel
theorem d39_10 : decode y15 10 = .ok (.if_icmp .ge 5, 3) := by decide +kernel
theorem d39_15 : decode y15 15 = .ok (.aload_n 0, 1) := by decide +kernel
theorem d39_16 : decode y15 16 = .ok (.getfield 21, 3) := by decide +kernel
theorem d39_19 : decode y15 19 = .ok (.iload_n 2, 1) := by decide +kernel
theorem d39_20 : decode y15 20 = .ok (.if_icmp .le 5, 3) := by decide +kernel
theorem d39_23 : decode y15 23 = .ok (.iconst 1, 1) := by decide +kernel
theorem d39_24 : decode y15 24 = .ok (.ireturn, 1) := by decide +kernel
theorem d40_0 : decode y18 0 = .ok (.aload_n 0, 1) := by decide +kernel
theorem d40_1 : decode y18 1 = .ok (.getfield 21, 3) := by decide +kernel
theorem d40_4 : decode y18 4 = .ok (.ifCond .ne 9, 3) := by decide +kernel
theorem d40_13 : decode y18 13 = .ok (.aload_n 0, 1) := by decide +kernel
theorem d40_14 : decode y18 14 = .ok (.getfield 11, 3) := by decide +kernel
theorem d40_17 : decode y18 17 = .ok (.istore_n 1, 1) := by decide +kernel
theorem d40_18 : decode y18 18 = .ok (.aload_n 0, 1) := by decide +kernel
theorem d40_19 : decode y18 19 = .ok (.getfield 17, 3) := by decide +kernel
theorem d40_22 : decode y18 22 = .ok (.iload_n 1, 1) := by decide +kernel
theorem d40_23 : decode y18 23 = .ok (.iaload, 1) := by decide +kernel
theorem d40_24 : decode y18 24 = .ok (.ifCond .eq 4, 3) := by decide +kernel
theorem d40_27 : decode y18 27 = .ok (.return_, 1) := by decide +kernel
theorem d38_0 : decode y23 0 = .ok (.aload_n 0, 1) := by decide +kernel
theorem d38_1 : decode y23 1 = .ok (.astore_n 2, 1) := by decide +kernel
theorem d38_2 : decode y23 2 = .ok (.aload_n 2, 1) := by decide +kernel
theorem d38_3 : decode y23 3 = .ok (.aload_n 1, 1) := by decide +kernel
theorem d38_4 : decode y23 4 = .ok (.invokevirtual 142, 3) := by decide +kernel
theorem pd__Ljava_math_MutableBigInteger__I : parseMethodDescriptor "(Ljava/math/MutableBigInteger;)I" = some ⟨[(.object "java/math/MutableBigInteger")], some .int⟩ := by decide +kernel
theorem d38_7 : decode y23 7 = .ok (.istore_n 3, 1) := by decide +kernel
theorem d38_8 : decode y23 8 = .ok (.iload_n 3, 1) := by decide +kernel
theorem d38_9 : decode y23 9 = .ok (.ifCond .ne 5, 3) := by decide +kernel
theorem d38_14 : decode y23 14 = .ok (.iload_n 3, 1) := by decide +kernel
theorem d38_15 : decode y23 15 = .ok (.ifCond .ge 11, 3) := by decide +kernel
theorem d38_26 : decode y23 26 = .ok (.lconst 0, 1) := by decide +kernel
theorem d38_27 : decode y23 27 = .ok (.lstore 4, 2) := by decide +kernel
theorem d38_29 : decode y23 29 = .ok (.aload_n 2, 1) := by decide +kernel
theorem d38_30 : decode y23 30 = .ok (.getfield 21, 3) := by decide +kernel
theorem d38_33 : decode y23 33 = .ok (.istore 6, 2) := by decide +kernel
theorem d38_35 : decode y23 35 = .ok (.aload_n 1, 1) := by decide +kernel
theorem d38_36 : decode y23 36 = .ok (.getfield 21, 3) := by decide +kernel
theorem d38_39 : decode y23 39 = .ok (.istore 7, 2) := by decide +kernel
theorem d38_41 : decode y23 41 = .ok (.iload 7, 2) := by decide +kernel
theorem d38_43 : decode y23 43 = .ok (.ifCond .le 70, 3) := by decide +kernel
theorem d38_46 : decode y23 46 = .ok (.iinc 6 (-1), 3) := by decide +kernel
theorem d38_49 : decode y23 49 = .ok (.iinc 7 (-1), 3) := by decide +kernel
theorem d38_52 : decode y23 52 = .ok (.aload_n 2, 1) := by decide +kernel
theorem d38_53 : decode y23 53 = .ok (.getfield 17, 3) := by decide +kernel
theorem d38_56 : decode y23 56 = .ok (.aload_n 2, 1) := by decide +kernel
theorem d38_57 : decode y23 57 = .ok (.getfield 11, 3) := by decide +kernel
theorem d38_60 : decode y23 60 = .ok (.iload 6, 2) := by decide +kernel
theorem d38_62 : decode y23 62 = .ok (.iadd, 1) := by decide +kernel
theorem d38_63 : decode y23 63 = .ok (.iaload, 1) := by decide +kernel
theorem d38_64 : decode y23 64 = .ok (.i2l, 1) := by decide +kernel
theorem d38_65 : decode y23 65 = .ok (.ldc2_w 52, 3) := by decide +kernel
theorem d38_68 : decode y23 68 = .ok (.land, 1) := by decide +kernel
theorem d38_69 : decode y23 69 = .ok (.aload_n 1, 1) := by decide +kernel
theorem d38_70 : decode y23 70 = .ok (.getfield 17, 3) := by decide +kernel
theorem d38_73 : decode y23 73 = .ok (.aload_n 1, 1) := by decide +kernel
theorem d38_74 : decode y23 74 = .ok (.getfield 11, 3) := by decide +kernel
theorem d38_77 : decode y23 77 = .ok (.iload 7, 2) := by decide +kernel
theorem d38_79 : decode y23 79 = .ok (.iadd, 1) := by decide +kernel
theorem d38_80 : decode y23 80 = .ok (.iaload, 1) := by decide +kernel
theorem d38_81 : decode y23 81 = .ok (.i2l, 1) := by decide +kernel
theorem d38_82 : decode y23 82 = .ok (.ldc2_w 52, 3) := by decide +kernel
theorem d38_85 : decode y23 85 = .ok (.land, 1) := by decide +kernel
theorem d38_86 : decode y23 86 = .ok (.lsub, 1) := by decide +kernel
theorem d38_87 : decode y23 87 = .ok (.lload 4, 2) := by decide +kernel
theorem d38_89 : decode y23 89 = .ok (.bipush 32, 2) := by decide +kernel
theorem d38_91 : decode y23 91 = .ok (.lshr, 1) := by decide +kernel
theorem d38_92 : decode y23 92 = .ok (.ladd, 1) := by decide +kernel
theorem d38_93 : decode y23 93 = .ok (.lstore 4, 2) := by decide +kernel
theorem d38_95 : decode y23 95 = .ok (.aload_n 2, 1) := by decide +kernel
theorem d38_96 : decode y23 96 = .ok (.getfield 17, 3) := by decide +kernel
theorem d38_99 : decode y23 99 = .ok (.aload_n 2, 1) := by decide +kernel
theorem d38_100 : decode y23 100 = .ok (.getfield 11, 3) := by decide +kernel
theorem d38_103 : decode y23 103 = .ok (.iload 6, 2) := by decide +kernel
theorem d38_105 : decode y23 105 = .ok (.iadd, 1) := by decide +kernel
theorem d38_106 : decode y23 106 = .ok (.lload 4, 2) := by decide +kernel
theorem d38_108 : decode y23 108 = .ok (.l2i, 1) := by decide +kernel
theorem d38_109 : decode y23 109 = .ok (.iastore, 1) := by decide +kernel
theorem d38_110 : decode y23 110 = .ok (.goto (-69), 3) := by decide +kernel
theorem d38_113 : decode y23 113 = .ok (.lload 4, 2) := by decide +kernel
theorem d38_115 : decode y23 115 = .ok (.lconst 0, 1) := by decide +kernel
theorem d38_116 : decode y23 116 = .ok (.lcmp, 1) := by decide +kernel
theorem d38_117 : decode y23 117 = .ok (.ifCond .ge 54, 3) := by decide +kernel
theorem d38_171 : decode y23 171 = .ok (.aload_n 2, 1) := by decide +kernel
theorem d38_172 : decode y23 172 = .ok (.invokevirtual 64, 3) := by decide +kernel
theorem pd___V : parseMethodDescriptor "()V" = some ⟨[], none⟩ := by decide +kernel
theorem d38_175 : decode y23 175 = .ok (.iload_n 3, 1) := by decide +kernel
theorem d38_176 : decode y23 176 = .ok (.ireturn, 1) := by decide +kernel
theorem d12_0 : decode y17 0 = .ok (.aload_n 0, 1) := by decide +kernel
theorem d12_1 : decode y17 1 = .ok (.invokespecial 5, 3) := by decide +kernel
theorem d12_4 : decode y17 4 = .ok (.aload_n 0, 1) := by decide +kernel
theorem d12_5 : decode y17 5 = .ok (.iconst 0, 1) := by decide +kernel
theorem d12_6 : decode y17 6 = .ok (.putfield 11, 3) := by decide +kernel
theorem d12_9 : decode y17 9 = .ok (.aload_n 0, 1) := by decide +kernel
theorem d12_10 : decode y17 10 = .ok (.iconst 1, 1) := by decide +kernel
theorem d12_11 : decode y17 11 = .ok (.newarray .int, 2) := by decide +kernel
theorem d12_13 : decode y17 13 = .ok (.putfield 17, 3) := by decide +kernel
theorem d12_16 : decode y17 16 = .ok (.aload_n 0, 1) := by decide +kernel
theorem d12_17 : decode y17 17 = .ok (.iconst 0, 1) := by decide +kernel
theorem d12_18 : decode y17 18 = .ok (.putfield 21, 3) := by decide +kernel
theorem d12_21 : decode y17 21 = .ok (.return_, 1) := by decide +kernel
theorem d14_0 : decode y25 0 = .ok (.aload_n 0, 1) := by decide +kernel
theorem d14_1 : decode y25 1 = .ok (.astore_n 2, 1) := by decide +kernel
theorem d14_2 : decode y25 2 = .ok (.new 12, 3) := by decide +kernel
theorem d14_5 : decode y25 5 = .ok (.dup, 1) := by decide +kernel
theorem d14_6 : decode y25 6 = .ok (.invokespecial 177, 3) := by decide +kernel
theorem d14_9 : decode y25 9 = .ok (.astore_n 3, 1) := by decide +kernel
theorem d14_10 : decode y25 10 = .ok (.aload_n 2, 1) := by decide +kernel
theorem d14_11 : decode y25 11 = .ok (.invokevirtual 184, 3) := by decide +kernel
theorem pd___I : parseMethodDescriptor "()I" = some ⟨[], some .int⟩ := by decide +kernel
theorem d14_14 : decode y25 14 = .ok (.istore 4, 2) := by decide +kernel
theorem d14_16 : decode y25 16 = .ok (.aload_n 1, 1) := by decide +kernel
theorem d14_17 : decode y25 17 = .ok (.invokevirtual 184, 3) := by decide +kernel
theorem d14_20 : decode y25 20 = .ok (.istore 5, 2) := by decide +kernel
theorem d14_22 : decode y25 22 = .ok (.iload 4, 2) := by decide +kernel
theorem d14_24 : decode y25 24 = .ok (.iload 5, 2) := by decide +kernel
theorem d14_26 : decode y25 26 = .ok (.if_icmp .ge 8, 3) := by decide +kernel
theorem d14_34 : decode y25 34 = .ok (.iload 5, 2) := by decide +kernel
theorem d14_36 : decode y25 36 = .ok (.istore 6, 2) := by decide +kernel
theorem d14_38 : decode y25 38 = .ok (.iload 6, 2) := by decide +kernel
theorem d14_40 : decode y25 40 = .ok (.ifCond .eq 15, 3) := by decide +kernel
theorem d14_55 : decode y25 55 = .ok (.iload 6, 2) := by decide +kernel
theorem d14_57 : decode y25 57 = .ok (.iload 4, 2) := by decide +kernel
theorem d14_59 : decode y25 59 = .ok (.if_icmp .ne 7, 3) := by decide +kernel
theorem d14_62 : decode y25 62 = .ok (.iconst 1, 1) := by decide +kernel
theorem d14_63 : decode y25 63 = .ok (.goto 4, 3) := by decide +kernel
theorem d14_67 : decode y25 67 = .ok (.istore 7, 2) := by decide +kernel
theorem d14_69 : decode y25 69 = .ok (.iload 7, 2) := by decide +kernel
theorem d14_71 : decode y25 71 = .ok (.ifCond .eq 7, 3) := by decide +kernel
theorem d14_74 : decode y25 74 = .ok (.aload_n 1, 1) := by decide +kernel
theorem d14_75 : decode y25 75 = .ok (.goto 4, 3) := by decide +kernel
theorem d14_79 : decode y25 79 = .ok (.astore 8, 2) := by decide +kernel
theorem d14_81 : decode y25 81 = .ok (.iload 7, 2) := by decide +kernel
theorem d14_83 : decode y25 83 = .ok (.ifCond .eq 7, 3) := by decide +kernel
theorem d14_86 : decode y25 86 = .ok (.iconst (-1), 1) := by decide +kernel
theorem d14_87 : decode y25 87 = .ok (.goto 4, 3) := by decide +kernel
theorem d14_91 : decode y25 91 = .ok (.istore 9, 2) := by decide +kernel
theorem d14_93 : decode y25 93 = .ok (.aload 8, 2) := by decide +kernel
theorem d14_95 : decode y25 95 = .ok (.invokevirtual 184, 3) := by decide +kernel
theorem d14_98 : decode y25 98 = .ok (.dup, 1) := by decide +kernel
theorem d14_99 : decode y25 99 = .ok (.istore 10, 2) := by decide +kernel
theorem d14_101 : decode y25 101 = .ok (.ifCond .lt 131, 3) := by decide +kernel
theorem d14_104 : decode y25 104 = .ok (.aload 8, 2) := by decide +kernel
theorem d14_106 : decode y25 106 = .ok (.iload 10, 2) := by decide +kernel
theorem d14_108 : decode y25 108 = .ok (.invokevirtual 108, 3) := by decide +kernel
theorem d14_111 : decode y25 111 = .ok (.iload 9, 2) := by decide +kernel
theorem d14_113 : decode y25 113 = .ok (.ifCond .le 9, 3) := by decide +kernel
theorem d14_122 : decode y25 122 = .ok (.aload 8, 2) := by decide +kernel
theorem d14_124 : decode y25 124 = .ok (.astore_n 1, 1) := by decide +kernel
theorem d14_125 : decode y25 125 = .ok (.aload_n 2, 1) := by decide +kernel
theorem d14_126 : decode y25 126 = .ok (.getfield 21, 3) := by decide +kernel
theorem d14_129 : decode y25 129 = .ok (.iconst 2, 1) := by decide +kernel
theorem d14_130 : decode y25 130 = .ok (.if_icmp .ge 73, 3) := by decide +kernel
theorem d14_133 : decode y25 133 = .ok (.aload_n 1, 1) := by decide +kernel
theorem d14_134 : decode y25 134 = .ok (.getfield 21, 3) := by decide +kernel
theorem d14_137 : decode y25 137 = .ok (.iconst 2, 1) := by decide +kernel
theorem d14_138 : decode y25 138 = .ok (.if_icmp .ge 65, 3) := by decide +kernel
theorem d14_141 : decode y25 141 = .ok (.aload_n 2, 1) := by decide +kernel
theorem d14_142 : decode y25 142 = .ok (.getfield 17, 3) := by decide +kernel
theorem d14_145 : decode y25 145 = .ok (.aload_n 2, 1) := by decide +kernel
theorem d14_146 : decode y25 146 = .ok (.getfield 11, 3) := by decide +kernel
theorem d14_149 : decode y25 149 = .ok (.iaload, 1) := by decide +kernel
theorem d14_150 : decode y25 150 = .ok (.istore 11, 2) := by decide +kernel
theorem d14_152 : decode y25 152 = .ok (.aload_n 1, 1) := by decide +kernel
theorem d14_153 : decode y25 153 = .ok (.getfield 17, 3) := by decide +kernel
theorem d14_156 : decode y25 156 = .ok (.aload_n 1, 1) := by decide +kernel
theorem d14_157 : decode y25 157 = .ok (.getfield 11, 3) := by decide +kernel
theorem d14_160 : decode y25 160 = .ok (.iaload, 1) := by decide +kernel
theorem d14_161 : decode y25 161 = .ok (.istore 12, 2) := by decide +kernel
theorem d14_163 : decode y25 163 = .ok (.iload 11, 2) := by decide +kernel
theorem d14_165 : decode y25 165 = .ok (.iload 12, 2) := by decide +kernel
theorem d14_167 : decode y25 167 = .ok (.invokestatic 338, 3) := by decide +kernel
theorem pd__II_I : parseMethodDescriptor "(II)I" = some ⟨[.int, .int], some .int⟩ := by decide +kernel
theorem d14_170 : decode y25 170 = .ok (.istore 11, 2) := by decide +kernel
theorem d14_172 : decode y25 172 = .ok (.aload_n 3, 1) := by decide +kernel
theorem d14_173 : decode y25 173 = .ok (.getfield 17, 3) := by decide +kernel
theorem d14_176 : decode y25 176 = .ok (.iconst 0, 1) := by decide +kernel
theorem d14_177 : decode y25 177 = .ok (.iload 11, 2) := by decide +kernel
theorem d14_179 : decode y25 179 = .ok (.iastore, 1) := by decide +kernel
theorem d14_180 : decode y25 180 = .ok (.aload_n 3, 1) := by decide +kernel
theorem d14_181 : decode y25 181 = .ok (.iconst 1, 1) := by decide +kernel
theorem d14_182 : decode y25 182 = .ok (.putfield 21, 3) := by decide +kernel
theorem d14_185 : decode y25 185 = .ok (.aload_n 3, 1) := by decide +kernel
theorem d14_186 : decode y25 186 = .ok (.iconst 0, 1) := by decide +kernel
theorem d14_187 : decode y25 187 = .ok (.putfield 11, 3) := by decide +kernel
theorem d14_190 : decode y25 190 = .ok (.iload 6, 2) := by decide +kernel
theorem d14_192 : decode y25 192 = .ok (.ifCond .le 9, 3) := by decide +kernel
theorem d14_201 : decode y25 201 = .ok (.aload_n 3, 1) := by decide +kernel
theorem d14_202 : decode y25 202 = .ok (.areturn, 1) := by decide +kernel
theorem d14_66 : decode y25 66 = .ok (.iconst 0, 1) := by decide +kernel
theorem d14_78 : decode y25 78 = .ok (.aload_n 2, 1) := by decide +kernel
theorem d14_90 : decode y25 90 = .ok (.iconst 1, 1) := by decide +kernel
theorem d14_116 : decode y25 116 = .ok (.aload 8, 2) := by decide +kernel
theorem d14_118 : decode y25 118 = .ok (.astore_n 2, 1) := by decide +kernel
theorem d14_119 : decode y25 119 = .ok (.goto 6, 3) := by decide +kernel
theorem d14_203 : decode y25 203 = .ok (.aload_n 2, 1) := by decide +kernel
theorem d14_204 : decode y25 204 = .ok (.aload_n 1, 1) := by decide +kernel
theorem d14_205 : decode y25 205 = .ok (.invokevirtual 341, 3) := by decide +kernel
theorem d14_208 : decode y25 208 = .ok (.dup, 1) := by decide +kernel
theorem d14_209 : decode y25 209 = .ok (.istore 9, 2) := by decide +kernel
theorem d14_211 : decode y25 211 = .ok (.ifCond .ne 6, 3) := by decide +kernel
theorem d14_217 : decode y25 217 = .ok (.iload 9, 2) := by decide +kernel
theorem d14_219 : decode y25 219 = .ok (.ifCond .lt 7, 3) := by decide +kernel
theorem d14_222 : decode y25 222 = .ok (.aload_n 2, 1) := by decide +kernel
theorem d14_223 : decode y25 223 = .ok (.goto 4, 3) := by decide +kernel
theorem d14_227 : decode y25 227 = .ok (.astore 8, 2) := by decide +kernel
theorem d14_229 : decode y25 229 = .ok (.goto (-136), 3) := by decide +kernel
theorem d13_0 : decode y29 0 = .ok (.iload_n 0, 1) := by decide +kernel
theorem d13_1 : decode y29 1 = .ok (.ifCond .ge 8, 3) := by decide +kernel
theorem d13_9 : decode y29 9 = .ok (.iload_n 0, 1) := by decide +kernel
theorem d13_10 : decode y29 10 = .ok (.ireturn, 1) := by decide +kernel
theorem d11_0 : decode y24 0 = .ok (.aload_n 0, 1) := by decide +kernel
theorem d11_1 : decode y24 1 = .ok (.astore_n 2, 1) := by decide +kernel
theorem d11_2 : decode y24 2 = .ok (.new 12, 3) := by decide +kernel
theorem d11_5 : decode y24 5 = .ok (.dup, 1) := by decide +kernel
theorem d11_6 : decode y24 6 = .ok (.invokespecial 177, 3) := by decide +kernel
theorem d11_9 : decode y24 9 = .ok (.astore_n 3, 1) := by decide +kernel
theorem d11_10 : decode y24 10 = .ok (.aload_n 1, 1) := by decide +kernel
theorem d11_11 : decode y24 11 = .ok (.getfield 21, 3) := by decide +kernel
theorem d11_14 : decode y24 14 = .ok (.ifCond .eq 41, 3) := by decide +kernel
theorem d11_17 : decode y24 17 = .ok (.aload_n 2, 1) := by decide +kernel
theorem d11_18 : decode y24 18 = .ok (.getfield 21, 3) := by decide +kernel
theorem d11_21 : decode y24 21 = .ok (.aload_n 1, 1) := by decide +kernel
theorem d11_22 : decode y24 22 = .ok (.getfield 21, 3) := by decide +kernel
theorem d11_25 : decode y24 25 = .ok (.isub, 1) := by decide +kernel
theorem d11_26 : decode y24 26 = .ok (.invokestatic 329, 3) := by decide +kernel
theorem d11_29 : decode y24 29 = .ok (.iconst 2, 1) := by decide +kernel
theorem d11_30 : decode y24 30 = .ok (.if_icmp .ge 9, 3) := by decide +kernel
theorem d11_33 : decode y24 33 = .ok (.aload_n 2, 1) := by decide +kernel
theorem d11_34 : decode y24 34 = .ok (.aload_n 1, 1) := by decide +kernel
theorem d11_35 : decode y24 35 = .ok (.invokevirtual 332, 3) := by decide +kernel
theorem pd__Ljava_math_MutableBigInteger__Ljava_math_MutableBigInteger_ : parseMethodDescriptor "(Ljava/math/MutableBigInteger;)Ljava/math/MutableBigInteger;" = some ⟨[(.object "java/math/MutableBigInteger")], some (.object "java/math/MutableBigInteger")⟩ := by decide +kernel
theorem d11_38 : decode y24 38 = .ok (.areturn, 1) := by decide +kernel
theorem d10_0 : decode y33 0 = .ok (.iload_n 1, 1) := by decide +kernel
theorem d10_1 : decode y33 1 = .ok (.aload_n 0, 1) := by decide +kernel
theorem d10_2 : decode y33 2 = .ok (.arraylength, 1) := by decide +kernel
theorem d10_3 : decode y33 3 = .ok (.if_icmp .ne 11, 3) := by decide +kernel
theorem d10_6 : decode y33 6 = .ok (.aload_n 0, 1) := by decide +kernel
theorem d10_7 : decode y33 7 = .ok (.invokevirtual 316, 3) := by decide +kernel
theorem d10_10 : decode y33 10 = .ok (.checkcast 317, 3) := by decide +kernel
theorem d10_13 : decode y33 13 = .ok (.areturn, 1) := by decide +kernel
theorem pn_java_util_Arrays : plainName "java/util/Arrays" = true := by first | (simp [plainName, overriddenIn]; done) | decide +kernel
theorem d9_0 : decode y22 0 = .ok (.aload_n 0, 1) := by decide +kernel
theorem d9_1 : decode y22 1 = .ok (.invokespecial 5, 3) := by decide +kernel
theorem d9_4 : decode y22 4 = .ok (.aload_n 0, 1) := by decide +kernel
theorem d9_5 : decode y22 5 = .ok (.iconst 0, 1) := by decide +kernel
theorem d9_6 : decode y22 6 = .ok (.putfield 11, 3) := by decide +kernel
theorem d9_9 : decode y22 9 = .ok (.aload_n 0, 1) := by decide +kernel
theorem d9_10 : decode y22 10 = .ok (.aload_n 1, 1) := by decide +kernel
theorem d9_11 : decode y22 11 = .ok (.getfield 24, 3) := by decide +kernel
theorem d9_14 : decode y22 14 = .ok (.arraylength, 1) := by decide +kernel
theorem d9_15 : decode y22 15 = .ok (.putfield 21, 3) := by decide +kernel
theorem d9_18 : decode y22 18 = .ok (.aload_n 0, 1) := by decide +kernel
theorem d9_19 : decode y22 19 = .ok (.aload_n 1, 1) := by decide +kernel
theorem d9_20 : decode y22 20 = .ok (.getfield 24, 3) := by decide +kernel
theorem d9_23 : decode y22 23 = .ok (.aload_n 0, 1) := by decide +kernel
theorem d9_24 : decode y22 24 = .ok (.getfield 21, 3) := by decide +kernel
theorem d9_27 : decode y22 27 = .ok (.invokestatic 27, 3) := by decide +kernel
theorem pd___II__I : parseMethodDescriptor "([II)[I" = some ⟨[(.array .int), .int], some (.array .int)⟩ := by decide +kernel
theorem d9_30 : decode y22 30 = .ok (.putfield 17, 3) := by decide +kernel
theorem d9_33 : decode y22 33 = .ok (.return_, 1) := by decide +kernel
theorem d20_0 : decode y27 0 = .ok (.aload_n 0, 1) := by decide +kernel
theorem d20_1 : decode y27 1 = .ok (.getfield 11, 3) := by decide +kernel
theorem d20_4 : decode y27 4 = .ok (.ifCond .gt 15, 3) := by decide +kernel
theorem d20_7 : decode y27 7 = .ok (.aload_n 0, 1) := by decide +kernel
theorem d20_8 : decode y27 8 = .ok (.getfield 17, 3) := by decide +kernel
theorem d20_11 : decode y27 11 = .ok (.arraylength, 1) := by decide +kernel
theorem d20_12 : decode y27 12 = .ok (.aload_n 0, 1) := by decide +kernel
theorem d20_13 : decode y27 13 = .ok (.getfield 21, 3) := by decide +kernel
theorem d20_16 : decode y27 16 = .ok (.if_icmp .eq 48, 3) := by decide +kernel
theorem d20_64 : decode y27 64 = .ok (.aload_n 0, 1) := by decide +kernel
theorem d20_65 : decode y27 65 = .ok (.getfield 17, 3) := by decide +kernel
theorem d20_68 : decode y27 68 = .ok (.areturn, 1) := by decide +kernel
theorem d22_0 : decode y0 0 = .ok (.aload_n 0, 1) := by decide +kernel
theorem d22_1 : decode y0 1 = .ok (.invokespecial 1, 3) := by decide +kernel
theorem d22_4 : decode y0 4 = .ok (.return_, 1) := by decide +kernel
theorem pn_java_lang_Number : plainName "java/lang/Number" = true := by first | (simp [plainName, overriddenIn]; done) | decide +kernel
theorem d21_0 : decode y5 0 = .ok (.aload_n 0, 1) := by decide +kernel
theorem d21_1 : decode y5 1 = .ok (.invokespecial 3, 3) := by decide +kernel
theorem d21_4 : decode y5 4 = .ok (.aload_n 0, 1) := by decide +kernel
theorem d21_5 : decode y5 5 = .ok (.aload_n 1, 1) := by decide +kernel
theorem d21_6 : decode y5 6 = .ok (.arraylength, 1) := by decide +kernel
theorem d21_7 : decode y5 7 = .ok (.ifCond .ne 7, 3) := by decide +kernel
theorem d21_14 : decode y5 14 = .ok (.iload_n 2, 1) := by decide +kernel
theorem d21_15 : decode y5 15 = .ok (.putfield 32, 3) := by decide +kernel
theorem d21_18 : decode y5 18 = .ok (.aload_n 0, 1) := by decide +kernel
theorem d21_19 : decode y5 19 = .ok (.aload_n 1, 1) := by decide +kernel
theorem d21_20 : decode y5 20 = .ok (.putfield 28, 3) := by decide +kernel
theorem d21_23 : decode y5 23 = .ok (.aload_n 0, 1) := by decide +kernel
theorem d21_24 : decode y5 24 = .ok (.getfield 28, 3) := by decide +kernel
theorem d21_27 : decode y5 27 = .ok (.arraylength, 1) := by decide +kernel
theorem d21_28 : decode y5 28 = .ok (.ldc 43, 2) := by decide +kernel
theorem d21_30 : decode y5 30 = .ok (.if_icmp .lt 7, 3) := by decide +kernel
theorem d21_37 : decode y5 37 = .ok (.return_, 1) := by decide +kernel
theorem d19_0 : decode y28 0 = .ok (.aload_n 0, 1) := by decide +kernel
theorem d19_1 : decode y28 1 = .ok (.getfield 21, 3) := by decide +kernel
theorem d19_4 : decode y28 4 = .ok (.ifCond .eq 7, 3) := by decide +kernel
theorem d19_7 : decode y28 7 = .ok (.iload_n 1, 1) := by decide +kernel
theorem d19_8 : decode y28 8 = .ok (.ifCond .ne 7, 3) := by decide +kernel
theorem d19_15 : decode y28 15 = .ok (.new 1, 3) := by decide +kernel
theorem d19_18 : decode y28 18 = .ok (.dup, 1) := by decide +kernel
theorem d19_19 : decode y28 19 = .ok (.aload_n 0, 1) := by decide +kernel
theorem d19_20 : decode y28 20 = .ok (.invokevirtual 58, 3) := by decide +kernel
theorem pd____I : parseMethodDescriptor "()[I" = some ⟨[], some (.array .int)⟩ := by decide +kernel
theorem d19_23 : decode y28 23 = .ok (.iload_n 1, 1) := by decide +kernel
theorem d19_24 : decode y28 24 = .ok (.invokespecial 62, 3) := by decide +kernel
theorem pd___II_V : parseMethodDescriptor "([II)V" = some ⟨[(.array .int), .int], none⟩ := by decide +kernel
theorem d19_27 : decode y28 27 = .ok (.areturn, 1) := by decide +kernel
theorem d42_0 : decode y13 0 = .ok (.aload_n 0, 1) := by decide +kernel
theorem d42_1 : decode y13 1 = .ok (.getfield 32, 3) := by decide +kernel
theorem d42_4 : decode y13 4 = .ok (.ifCond .lt 7, 3) := by decide +kernel
theorem d42_7 : decode y13 7 = .ok (.aload_n 0, 1) := by decide +kernel
theorem d42_8 : decode y13 8 = .ok (.goto 7, 3) := by decide +kernel
theorem d42_15 : decode y13 15 = .ok (.areturn, 1) := by decide +kernel
theorem d8_0 : decode y11 0 = .ok (.aload_n 1, 1) := by decide +kernel
theorem d8_1 : decode y11 1 = .ok (.getfield 32, 3) := by decide +kernel
theorem d8_4 : decode y11 4 = .ok (.ifCond .ne 8, 3) := by decide +kernel
theorem d8_12 : decode y11 12 = .ok (.aload_n 0, 1) := by decide +kernel
theorem d8_13 : decode y11 13 = .ok (.getfield 32, 3) := by decide +kernel
theorem d8_16 : decode y11 16 = .ok (.ifCond .ne 8, 3) := by decide +kernel
theorem d8_19 : decode y11 19 = .ok (.aload_n 1, 1) := by decide +kernel
theorem d8_20 : decode y11 20 = .ok (.invokevirtual 485, 3) := by decide +kernel
theorem pd___Ljava_math_BigInteger_ : parseMethodDescriptor "()Ljava/math/BigInteger;" = some ⟨[], some (.object "java/math/BigInteger")⟩ := by decide +kernel
theorem d8_23 : decode y11 23 = .ok (.areturn, 1) := by decide +kernel
theorem d8_24 : decode y11 24 = .ok (.new 541, 3) := by decide +kernel
theorem d8_27 : decode y11 27 = .ok (.dup, 1) := by decide +kernel
theorem d8_28 : decode y11 28 = .ok (.aload_n 0, 1) := by decide +kernel
theorem d8_29 : decode y11 29 = .ok (.invokespecial 567, 3) := by decide +kernel
theorem pd__Ljava_math_BigInteger__V : parseMethodDescriptor "(Ljava/math/BigInteger;)V" = some ⟨[(.object "java/math/BigInteger")], none⟩ := by decide +kernel
theorem d8_32 : decode y11 32 = .ok (.astore_n 2, 1) := by decide +kernel
theorem d8_33 : decode y11 33 = .ok (.new 541, 3) := by decide +kernel
theorem d8_36 : decode y11 36 = .ok (.dup, 1) := by decide +kernel
theorem d8_37 : decode y11 37 = .ok (.aload_n 1, 1) := by decide +kernel
theorem d8_38 : decode y11 38 = .ok (.invokespecial 567, 3) := by decide +kernel
theorem d8_41 : decode y11 41 = .ok (.astore_n 3, 1) := by decide +kernel
theorem d8_42 : decode y11 42 = .ok (.aload_n 2, 1) := by decide +kernel
theorem d8_43 : decode y11 43 = .ok (.aload_n 3, 1) := by decide +kernel
theorem d8_44 : decode y11 44 = .ok (.invokevirtual 598, 3) := by decide +kernel
theorem d8_47 : decode y11 47 = .ok (.astore 4, 2) := by decide +kernel
theorem d8_49 : decode y11 49 = .ok (.aload 4, 2) := by decide +kernel
theorem d8_51 : decode y11 51 = .ok (.iconst 1, 1) := by decide +kernel
theorem d8_52 : decode y11 52 = .ok (.invokevirtual 548, 3) := by decide +kernel
theorem pd__I_Ljava_math_BigInteger_ : parseMethodDescriptor "(I)Ljava/math/BigInteger;" = some ⟨[.int], some (.object "java/math/BigInteger")⟩ := by decide +kernel
theorem d8_55 : decode y11 55 = .ok (.areturn, 1) := by decide +kernel
theorem d23_0 : decode y4 0 = .ok (.aload_n 1, 1) := by decide +kernel
theorem d23_1 : decode y4 1 = .ok (.aload_n 0, 1) := by decide +kernel
theorem d23_2 : decode y4 2 = .ok (.if_acmp .ne 5, 3) := by decide +kernel
theorem d23_5 : decode y4 5 = .ok (.iconst 1, 1) := by decide +kernel
theorem d23_6 : decode y4 6 = .ok (.ireturn, 1) := by decide +kernel
theorem d23_7 : decode y4 7 = .ok (.aload_n 1, 1) := by decide +kernel
theorem d23_8 : decode y4 8 = .ok (.instanceof 23, 3) := by decide +kernel
theorem d23_11 : decode y4 11 = .ok (.ifCond .eq 11, 3) := by decide +kernel
theorem d23_14 : decode y4 14 = .ok (.aload_n 1, 1) := by decide +kernel
theorem d23_15 : decode y4 15 = .ok (.checkcast 23, 3) := by decide +kernel
theorem d23_18 : decode y4 18 = .ok (.astore_n 2, 1) := by decide +kernel
theorem d23_19 : decode y4 19 = .ok (.goto 5, 3) := by decide +kernel
theorem d23_24 : decode y4 24 = .ok (.aload_n 2, 1) := by decide +kernel
theorem d23_25 : decode y4 25 = .ok (.getfield 32, 3) := by decide +kernel
theorem d23_28 : decode y4 28 = .ok (.aload_n 0, 1) := by decide +kernel
theorem d23_29 : decode y4 29 = .ok (.getfield 32, 3) := by decide +kernel
theorem d23_32 : decode y4 32 = .ok (.if_icmp .eq 5, 3) := by decide +kernel
theorem d23_37 : decode y4 37 = .ok (.aload_n 0, 1) := by decide +kernel
theorem d23_38 : decode y4 38 = .ok (.getfield 28, 3) := by decide +kernel
theorem d23_41 : decode y4 41 = .ok (.astore_n 3, 1) := by decide +kernel
theorem d23_42 : decode y4 42 = .ok (.aload_n 3, 1) := by decide +kernel
theorem d23_43 : decode y4 43 = .ok (.arraylength, 1) := by decide +kernel
theorem d23_44 : decode y4 44 = .ok (.istore 4, 2) := by decide +kernel
theorem d23_46 : decode y4 46 = .ok (.aload_n 2, 1) := by decide +kernel
theorem d23_47 : decode y4 47 = .ok (.getfield 28, 3) := by decide +kernel
theorem d23_50 : decode y4 50 = .ok (.astore 5, 2) := by decide +kernel
theorem d23_52 : decode y4 52 = .ok (.iload 4, 2) := by decide +kernel
theorem d23_54 : decode y4 54 = .ok (.aload 5, 2) := by decide +kernel
theorem d23_56 : decode y4 56 = .ok (.arraylength, 1) := by decide +kernel
theorem d23_57 : decode y4 57 = .ok (.if_icmp .eq 5, 3) := by decide +kernel
theorem d23_62 : decode y4 62 = .ok (.iconst 0, 1) := by decide +kernel
theorem d23_63 : decode y4 63 = .ok (.istore 6, 2) := by decide +kernel
theorem d23_65 : decode y4 65 = .ok (.iload 6, 2) := by decide +kernel
theorem d23_67 : decode y4 67 = .ok (.iload 4, 2) := by decide +kernel
theorem d23_69 : decode y4 69 = .ok (.if_icmp .ge 23, 3) := by decide +kernel
theorem d23_92 : decode y4 92 = .ok (.iconst 1, 1) := by decide +kernel
theorem d23_93 : decode y4 93 = .ok (.ireturn, 1) := by decide +kernel
theorem d23_72 : decode y4 72 = .ok (.aload 5, 2) := by decide +kernel
theorem d23_74 : decode y4 74 = .ok (.iload 6, 2) := by decide +kernel
theorem d23_76 : decode y4 76 = .ok (.iaload, 1) := by decide +kernel
theorem d23_77 : decode y4 77 = .ok (.aload_n 3, 1) := by decide +kernel
theorem d23_78 : decode y4 78 = .ok (.iload 6, 2) := by decide +kernel
theorem d23_80 : decode y4 80 = .ok (.iaload, 1) := by decide +kernel
theorem d23_81 : decode y4 81 = .ok (.if_icmp .eq 5, 3) := by decide +kernel
theorem d23_86 : decode y4 86 = .ok (.iinc 6 1, 3) := by decide +kernel
theorem d23_89 : decode y4 89 = .ok (.goto (-24), 3) := by decide +kernel
theorem d7_0 : decode y14 0 = .ok (.aload_n 0, 1) := by decide +kernel
theorem d7_1 : decode y14 1 = .ok (.getfield 32, 3) := by decide +kernel
theorem d7_4 : decode y14 4 = .ok (.ireturn, 1) := by decide +kernel
theorem d29_0 : decode y1 0 = .ok (.iload_n 1, 1) := by decide +kernel
theorem d29_1 : decode y1 1 = .ok (.iconst 5, 1) := by decide +kernel
theorem d29_2 : decode y1 2 = .ok (.iushr, 1) := by decide +kernel
theorem d29_3 : decode y1 3 = .ok (.istore_n 2, 1) := by decide +kernel
theorem d29_4 : decode y1 4 = .ok (.iload_n 1, 1) := by decide +kernel
theorem d29_5 : decode y1 5 = .ok (.bipush 31, 2) := by decide +kernel
theorem d29_7 : decode y1 7 = .ok (.iand, 1) := by decide +kernel
theorem d29_8 : decode y1 8 = .ok (.istore_n 3, 1) := by decide +kernel
theorem d29_9 : decode y1 9 = .ok (.aload_n 0, 1) := by decide +kernel
theorem d29_10 : decode y1 10 = .ok (.arraylength, 1) := by decide +kernel
theorem d29_11 : decode y1 11 = .ok (.istore 4, 2) := by decide +kernel
theorem d29_13 : decode y1 13 = .ok (.aconst_null, 1) := by decide +kernel
theorem d29_14 : decode y1 14 = .ok (.astore 5, 2) := by decide +kernel
theorem d29_16 : decode y1 16 = .ok (.iload_n 3, 1) := by decide +kernel
theorem d29_17 : decode y1 17 = .ok (.ifCond .ne 24, 3) := by decide +kernel
theorem d29_20 : decode y1 20 = .ok (.iload 4, 2) := by decide +kernel
theorem d29_22 : decode y1 22 = .ok (.iload_n 2, 1) := by decide +kernel
theorem d29_23 : decode y1 23 = .ok (.iadd, 1) := by decide +kernel
theorem d29_24 : decode y1 24 = .ok (.newarray .int, 2) := by decide +kernel
theorem d29_26 : decode y1 26 = .ok (.astore 5, 2) := by decide +kernel
theorem d29_28 : decode y1 28 = .ok (.aload_n 0, 1) := by decide +kernel
theorem d29_29 : decode y1 29 = .ok (.iconst 0, 1) := by decide +kernel
theorem d29_30 : decode y1 30 = .ok (.aload 5, 2) := by decide +kernel
theorem d29_32 : decode y1 32 = .ok (.iconst 0, 1) := by decide +kernel
theorem d29_33 : decode y1 33 = .ok (.iload 4, 2) := by decide +kernel
theorem d29_35 : decode y1 35 = .ok (.invokestatic 388, 3) := by decide +kernel
theorem d29_38 : decode y1 38 = .ok (.goto 114, 3) := by decide +kernel
theorem d29_152 : decode y1 152 = .ok (.aload 5, 2) := by decide +kernel
theorem d29_154 : decode y1 154 = .ok (.areturn, 1) := by decide +kernel
theorem d27_0 : decode y10 0 = .ok (.iload_n 1, 1) := by decide +kernel
theorem d27_1 : decode y10 1 = .ok (.invokestatic 423, 3) := by decide +kernel
theorem d27_4 : decode y10 4 = .ok (.iconst 1, 1) := by decide +kernel
theorem d27_5 : decode y10 5 = .ok (.if_icmp .ne 20, 3) := by decide +kernel
theorem d27_8 : decode y10 8 = .ok (.new 23, 3) := by decide +kernel
theorem d27_11 : decode y10 11 = .ok (.dup, 1) := by decide +kernel
theorem d27_12 : decode y10 12 = .ok (.aload_n 0, 1) := by decide +kernel
theorem d27_13 : decode y10 13 = .ok (.iload_n 1, 1) := by decide +kernel
theorem d27_14 : decode y10 14 = .ok (.invokestatic 426, 3) := by decide +kernel
theorem d27_17 : decode y10 17 = .ok (.invokestatic 429, 3) := by decide +kernel
theorem d27_20 : decode y10 20 = .ok (.iload_n 2, 1) := by decide +kernel
theorem d27_21 : decode y10 21 = .ok (.invokespecial 175, 3) := by decide +kernel
theorem d27_24 : decode y10 24 = .ok (.areturn, 1) := by decide +kernel
theorem d26_0 : decode y9 0 = .ok (.aload_n 1, 1) := by decide +kernel
theorem d26_1 : decode y9 1 = .ok (.getfield 32, 3) := by decide +kernel
theorem d26_4 : decode y9 4 = .ok (.ifCond .eq 10, 3) := by decide +kernel
theorem d26_7 : decode y9 7 = .ok (.aload_n 0, 1) := by decide +kernel
theorem d26_8 : decode y9 8 = .ok (.getfield 32, 3) := by decide +kernel
theorem d26_11 : decode y9 11 = .ok (.ifCond .ne 7, 3) := by decide +kernel
theorem d26_18 : decode y9 18 = .ok (.aload_n 0, 1) := by decide +kernel
theorem d26_19 : decode y9 19 = .ok (.getfield 28, 3) := by decide +kernel
theorem d26_22 : decode y9 22 = .ok (.arraylength, 1) := by decide +kernel
theorem d26_23 : decode y9 23 = .ok (.istore 5, 2) := by decide +kernel
theorem d26_25 : decode y9 25 = .ok (.aload_n 1, 1) := by decide +kernel
theorem d26_26 : decode y9 26 = .ok (.aload_n 0, 1) := by decide +kernel
theorem d26_27 : decode y9 27 = .ok (.if_acmp .ne 19, 3) := by decide +kernel
theorem d26_30 : decode y9 30 = .ok (.iload 5, 2) := by decide +kernel
theorem d26_32 : decode y9 32 = .ok (.bipush 20, 2) := by decide +kernel
theorem d26_34 : decode y9 34 = .ok (.if_icmp .le 12, 3) := by decide +kernel
theorem d26_46 : decode y9 46 = .ok (.aload_n 1, 1) := by decide +kernel
theorem d26_47 : decode y9 47 = .ok (.getfield 28, 3) := by decide +kernel
theorem d26_50 : decode y9 50 = .ok (.arraylength, 1) := by decide +kernel
theorem d26_51 : decode y9 51 = .ok (.istore 6, 2) := by decide +kernel
theorem d26_53 : decode y9 53 = .ok (.iload 5, 2) := by decide +kernel
theorem d26_55 : decode y9 55 = .ok (.bipush 80, 2) := by decide +kernel
theorem d26_57 : decode y9 57 = .ok (.if_icmp .lt 10, 3) := by decide +kernel
theorem d26_67 : decode y9 67 = .ok (.aload_n 0, 1) := by decide +kernel
theorem d26_68 : decode y9 68 = .ok (.getfield 32, 3) := by decide +kernel
theorem d26_71 : decode y9 71 = .ok (.aload_n 1, 1) := by decide +kernel
theorem d26_72 : decode y9 72 = .ok (.getfield 32, 3) := by decide +kernel
theorem d26_75 : decode y9 75 = .ok (.if_icmp .ne 7, 3) := by decide +kernel
theorem d26_78 : decode y9 78 = .ok (.iconst 1, 1) := by decide +kernel
theorem d26_79 : decode y9 79 = .ok (.goto 4, 3) := by decide +kernel
theorem d26_83 : decode y9 83 = .ok (.istore 7, 2) := by decide +kernel
theorem d26_85 : decode y9 85 = .ok (.aload_n 1, 1) := by decide +kernel
theorem d26_86 : decode y9 86 = .ok (.getfield 28, 3) := by decide +kernel
theorem d26_89 : decode y9 89 = .ok (.arraylength, 1) := by decide +kernel
theorem d26_90 : decode y9 90 = .ok (.iconst 1, 1) := by decide +kernel
theorem d26_91 : decode y9 91 = .ok (.if_icmp .ne 19, 3) := by decide +kernel
theorem d26_94 : decode y9 94 = .ok (.aload_n 0, 1) := by decide +kernel
theorem d26_95 : decode y9 95 = .ok (.getfield 28, 3) := by decide +kernel
theorem d26_98 : decode y9 98 = .ok (.aload_n 1, 1) := by decide +kernel
theorem d26_99 : decode y9 99 = .ok (.getfield 28, 3) := by decide +kernel
theorem d26_102 : decode y9 102 = .ok (.iconst 0, 1) := by decide +kernel
theorem d26_103 : decode y9 103 = .ok (.iaload, 1) := by decide +kernel
theorem d26_104 : decode y9 104 = .ok (.iload 7, 2) := by decide +kernel
theorem d26_106 : decode y9 106 = .ok (.invokestatic 403, 3) := by decide +kernel
theorem pd___III_Ljava_math_BigInteger_ : parseMethodDescriptor "([III)Ljava/math/BigInteger;" = some ⟨[(.array .int), .int, .int], some (.object "java/math/BigInteger")⟩ := by decide +kernel
theorem d26_109 : decode y9 109 = .ok (.areturn, 1) := by decide +kernel
theorem d26_82 : decode y9 82 = .ok (.iconst (-1), 1) := by decide +kernel
theorem d25_0 : decode y8 0 = .ok (.aload_n 0, 1) := by decide +kernel
theorem d25_1 : decode y8 1 = .ok (.aload_n 1, 1) := by decide +kernel
theorem d25_2 : decode y8 2 = .ok (.iconst 0, 1) := by decide +kernel
theorem d25_3 : decode y8 3 = .ok (.iconst 0, 1) := by decide +kernel
theorem d25_4 : decode y8 4 = .ok (.iconst 0, 1) := by decide +kernel
theorem d25_5 : decode y8 5 = .ok (.invokevirtual 397, 3) := by decide +kernel
theorem pd__Ljava_math_BigInteger_ZZI_Ljava_math_BigInteger_ : parseMethodDescriptor "(Ljava/math/BigInteger;ZZI)Ljava/math/BigInteger;" = some ⟨[(.object "java/math/BigInteger"), .boolean, .boolean, .int], some (.object "java/math/BigInteger")⟩ := by decide +kernel
theorem d25_8 : decode y8 8 = .ok (.areturn, 1) := by decide +kernel
theorem d26_14 : decode y9 14 = .ok (.getstatic 22, 3) := by decide +kernel
theorem d26_17 : decode y9 17 = .ok (.areturn, 1) := by decide +kernel
theorem d31_0 : decode y3 0 = .ok (.aload_n 0, 1) := by decide +kernel
theorem d31_1 : decode y3 1 = .ok (.getfield 28, 3) := by decide +kernel
theorem d31_4 : decode y3 4 = .ok (.astore_n 2, 1) := by decide +kernel
theorem d31_5 : decode y3 5 = .ok (.aload_n 2, 1) := by decide +kernel
theorem d31_6 : decode y3 6 = .ok (.arraylength, 1) := by decide +kernel
theorem d31_7 : decode y3 7 = .ok (.istore_n 3, 1) := by decide +kernel
theorem d31_8 : decode y3 8 = .ok (.aload_n 1, 1) := by decide +kernel
theorem d31_9 : decode y3 9 = .ok (.getfield 28, 3) := by decide +kernel
theorem d31_12 : decode y3 12 = .ok (.astore 4, 2) := by decide +kernel
theorem d31_14 : decode y3 14 = .ok (.aload 4, 2) := by decide +kernel
theorem d31_16 : decode y3 16 = .ok (.arraylength, 1) := by decide +kernel
theorem d31_17 : decode y3 17 = .ok (.istore 5, 2) := by decide +kernel
theorem d31_19 : decode y3 19 = .ok (.iload_n 3, 1) := by decide +kernel
theorem d31_20 : decode y3 20 = .ok (.iload 5, 2) := by decide +kernel
theorem d31_22 : decode y3 22 = .ok (.if_icmp .ge 5, 3) := by decide +kernel
theorem d31_27 : decode y3 27 = .ok (.iload_n 3, 1) := by decide +kernel
theorem d31_28 : decode y3 28 = .ok (.iload 5, 2) := by decide +kernel
theorem d31_30 : decode y3 30 = .ok (.if_icmp .le 5, 3) := by decide +kernel
theorem d31_35 : decode y3 35 = .ok (.iconst 0, 1) := by decide +kernel
theorem d31_36 : decode y3 36 = .ok (.istore 6, 2) := by decide +kernel
theorem d31_38 : decode y3 38 = .ok (.iload 6, 2) := by decide +kernel
theorem d31_40 : decode y3 40 = .ok (.iload_n 3, 1) := by decide +kernel
theorem d31_41 : decode y3 41 = .ok (.if_icmp .ge 53, 3) := by decide +kernel
theorem d31_44 : decode y3 44 = .ok (.aload_n 2, 1) := by decide +kernel
theorem d31_45 : decode y3 45 = .ok (.iload 6, 2) := by decide +kernel
theorem d31_47 : decode y3 47 = .ok (.iaload, 1) := by decide +kernel
theorem d31_48 : decode y3 48 = .ok (.istore 7, 2) := by decide +kernel
theorem d31_50 : decode y3 50 = .ok (.aload 4, 2) := by decide +kernel
theorem d31_52 : decode y3 52 = .ok (.iload 6, 2) := by decide +kernel
theorem d31_54 : decode y3 54 = .ok (.iaload, 1) := by decide +kernel
theorem d31_55 : decode y3 55 = .ok (.istore 8, 2) := by decide +kernel
theorem d31_57 : decode y3 57 = .ok (.iload 7, 2) := by decide +kernel
theorem d31_59 : decode y3 59 = .ok (.iload 8, 2) := by decide +kernel
theorem d31_61 : decode y3 61 = .ok (.if_icmp .eq 27, 3) := by decide +kernel
theorem d31_88 : decode y3 88 = .ok (.iinc 6 1, 3) := by decide +kernel
theorem d31_91 : decode y3 91 = .ok (.goto (-53), 3) := by decide +kernel
theorem d31_94 : decode y3 94 = .ok (.iconst 0, 1) := by decide +kernel
theorem d31_95 : decode y3 95 = .ok (.ireturn, 1) := by decide +kernel
theorem d31_64 : decode y3 64 = .ok (.iload 7, 2) := by decide +kernel
theorem d31_66 : decode y3 66 = .ok (.i2l, 1) := by decide +kernel
theorem d31_67 : decode y3 67 = .ok (.ldc2_w 130, 3) := by decide +kernel
theorem d31_70 : decode y3 70 = .ok (.land, 1) := by decide +kernel
theorem d31_71 : decode y3 71 = .ok (.iload 8, 2) := by decide +kernel
theorem d31_73 : decode y3 73 = .ok (.i2l, 1) := by decide +kernel
theorem d31_74 : decode y3 74 = .ok (.ldc2_w 130, 3) := by decide +kernel
theorem d31_77 : decode y3 77 = .ok (.land, 1) := by decide +kernel
theorem d31_78 : decode y3 78 = .ok (.lcmp, 1) := by decide +kernel
theorem d31_79 : decode y3 79 = .ok (.ifCond .ge 7, 3) := by decide +kernel
theorem d31_82 : decode y3 82 = .ok (.iconst (-1), 1) := by decide +kernel
theorem d31_83 : decode y3 83 = .ok (.goto 4, 3) := by decide +kernel
theorem d31_87 : decode y3 87 = .ok (.ireturn, 1) := by decide +kernel
theorem d31_86 : decode y3 86 = .ok (.iconst 1, 1) := by decide +kernel
theorem d31_25 : decode y3 25 = .ok (.iconst (-1), 1) := by decide +kernel
theorem d31_26 : decode y3 26 = .ok (.ireturn, 1) := by decide +kernel
theorem d31_33 : decode y3 33 = .ok (.iconst 1, 1) := by decide +kernel
theorem d31_34 : decode y3 34 = .ok (.ireturn, 1) := by decide +kernel
theorem d30_0 : decode y2 0 = .ok (.aload_n 0, 1) := by decide +kernel
theorem d30_1 : decode y2 1 = .ok (.getfield 32, 3) := by decide +kernel
theorem d30_4 : decode y2 4 = .ok (.aload_n 1, 1) := by decide +kernel
theorem d30_5 : decode y2 5 = .ok (.getfield 32, 3) := by decide +kernel
theorem d30_8 : decode y2 8 = .ok (.if_icmp .ne 50, 3) := by decide +kernel
theorem d30_11 : decode y2 11 = .ok (.aload_n 0, 1) := by decide +kernel
theorem d30_12 : decode y2 12 = .ok (.getfield 32, 3) := by decide +kernel
theorem d30_15 : decode y2 15 = .ok (.lookupswitch 41 #[((-1), 33), (1, 25)], 25) := by decide +kernel
theorem d30_56 : decode y2 56 = .ok (.iconst 0, 1) := by decide +kernel
theorem d30_57 : decode y2 57 = .ok (.ireturn, 1) := by decide +kernel
theorem d30_58 : decode y2 58 = .ok (.aload_n 0, 1) := by decide +kernel
theorem d30_59 : decode y2 59 = .ok (.getfield 32, 3) := by decide +kernel
theorem d30_62 : decode y2 62 = .ok (.aload_n 1, 1) := by decide +kernel
theorem d30_63 : decode y2 63 = .ok (.getfield 32, 3) := by decide +kernel
theorem d30_66 : decode y2 66 = .ok (.if_icmp .le 7, 3) := by decide +kernel
theorem d30_73 : decode y2 73 = .ok (.iconst (-1), 1) := by decide +kernel
theorem d30_74 : decode y2 74 = .ok (.ireturn, 1) := by decide +kernel
theorem d30_69 : decode y2 69 = .ok (.iconst 1, 1) := by decide +kernel
theorem d30_70 : decode y2 70 = .ok (.goto 4, 3) := by decide +kernel
theorem d30_40 : decode y2 40 = .ok (.aload_n 0, 1) := by decide +kernel
theorem d30_41 : decode y2 41 = .ok (.aload_n 1, 1) := by decide +kernel
theorem d30_42 : decode y2 42 = .ok (.invokevirtual 365, 3) := by decide +kernel
theorem pd__Ljava_math_BigInteger__I : parseMethodDescriptor "(Ljava/math/BigInteger;)I" = some ⟨[(.object "java/math/BigInteger")], some .int⟩ := by decide +kernel
theorem d30_45 : decode y2 45 = .ok (.goto 12, 3) := by decide +kernel
theorem d30_48 : decode y2 48 = .ok (.aload_n 1, 1) := by decide +kernel
theorem d30_49 : decode y2 49 = .ok (.aload_n 0, 1) := by decide +kernel
theorem d30_50 : decode y2 50 = .ok (.invokevirtual 365, 3) := by decide +kernel
theorem d30_53 : decode y2 53 = .ok (.goto 4, 3) := by decide +kernel
theorem d2_0 : decode y6 0 = .ok (.lload_n 0, 1) := by decide +kernel
theorem d2_1 : decode y6 1 = .ok (.lconst 0, 1) := by decide +kernel
theorem d2_2 : decode y6 2 = .ok (.lcmp, 1) := by decide +kernel
theorem d2_3 : decode y6 3 = .ok (.ifCond .ne 7, 3) := by decide +kernel
theorem d2_10 : decode y6 10 = .ok (.lload_n 0, 1) := by decide +kernel
theorem d2_11 : decode y6 11 = .ok (.lconst 0, 1) := by decide +kernel
theorem d2_12 : decode y6 12 = .ok (.lcmp, 1) := by decide +kernel
theorem d2_13 : decode y6 13 = .ok (.ifCond .le 18, 3) := by decide +kernel
theorem d2_16 : decode y6 16 = .ok (.lload_n 0, 1) := by decide +kernel
theorem d2_17 : decode y6 17 = .ok (.ldc2_w 345, 3) := by decide +kernel
theorem d2_20 : decode y6 20 = .ok (.lcmp, 1) := by decide +kernel
theorem d2_21 : decode y6 21 = .ok (.ifCond .gt 10, 3) := by decide +kernel
theorem d2_24 : decode y6 24 = .ok (.getstatic 347, 3) := by decide +kernel
theorem d2_27 : decode y6 27 = .ok (.lload_n 0, 1) := by decide +kernel
theorem d2_28 : decode y6 28 = .ok (.l2i, 1) := by decide +kernel
theorem d2_29 : decode y6 29 = .ok (.aaload, 1) := by decide +kernel
theorem d2_30 : decode y6 30 = .ok (.areturn, 1) := by decide +kernel
theorem d2_6 : decode y6 6 = .ok (.getstatic 22, 3) := by decide +kernel
theorem d2_9 : decode y6 9 = .ok (.areturn, 1) := by decide +kernel
theorem d34_0 : decode y7 0 = .ok (.aload_n 0, 1) := by decide +kernel
theorem d34_1 : decode y7 1 = .ok (.invokespecial 3, 3) := by decide +kernel
theorem d34_4 : decode y7 4 = .ok (.lload_n 1, 1) := by decide +kernel
theorem d34_5 : decode y7 5 = .ok (.lconst 0, 1) := by decide +kernel
theorem d34_6 : decode y7 6 = .ok (.lcmp, 1) := by decide +kernel
theorem d34_7 : decode y7 7 = .ok (.ifCond .ge 14, 3) := by decide +kernel
theorem d34_10 : decode y7 10 = .ok (.lload_n 1, 1) := by decide +kernel
theorem d34_11 : decode y7 11 = .ok (.lneg, 1) := by decide +kernel
theorem d34_12 : decode y7 12 = .ok (.lstore_n 1, 1) := by decide +kernel
theorem d34_13 : decode y7 13 = .ok (.aload_n 0, 1) := by decide +kernel
theorem d34_14 : decode y7 14 = .ok (.iconst (-1), 1) := by decide +kernel
theorem d34_15 : decode y7 15 = .ok (.putfield 32, 3) := by decide +kernel
theorem d34_18 : decode y7 18 = .ok (.goto 8, 3) := by decide +kernel
theorem d34_26 : decode y7 26 = .ok (.lload_n 1, 1) := by decide +kernel
theorem d34_27 : decode y7 27 = .ok (.bipush 32, 2) := by decide +kernel
theorem d34_29 : decode y7 29 = .ok (.lushr, 1) := by decide +kernel
theorem d34_30 : decode y7 30 = .ok (.l2i, 1) := by decide +kernel
theorem d34_31 : decode y7 31 = .ok (.istore_n 3, 1) := by decide +kernel
theorem d34_32 : decode y7 32 = .ok (.iload_n 3, 1) := by decide +kernel
theorem d34_33 : decode y7 33 = .ok (.ifCond .ne 21, 3) := by decide +kernel
theorem d34_36 : decode y7 36 = .ok (.aload_n 0, 1) := by decide +kernel
theorem d34_37 : decode y7 37 = .ok (.iconst 1, 1) := by decide +kernel
theorem d34_38 : decode y7 38 = .ok (.newarray .int, 2) := by decide +kernel
theorem d34_40 : decode y7 40 = .ok (.putfield 28, 3) := by decide +kernel
theorem d34_43 : decode y7 43 = .ok (.aload_n 0, 1) := by decide +kernel
theorem d34_44 : decode y7 44 = .ok (.getfield 28, 3) := by decide +kernel
theorem d34_47 : decode y7 47 = .ok (.iconst 0, 1) := by decide +kernel
theorem d34_48 : decode y7 48 = .ok (.lload_n 1, 1) := by decide +kernel
theorem d34_49 : decode y7 49 = .ok (.l2i, 1) := by decide +kernel
theorem d34_50 : decode y7 50 = .ok (.iastore, 1) := by decide +kernel
theorem d34_51 : decode y7 51 = .ok (.goto 25, 3) := by decide +kernel
theorem d34_76 : decode y7 76 = .ok (.return_, 1) := by decide +kernel
theorem d34_21 : decode y7 21 = .ok (.aload_n 0, 1) := by decide +kernel
theorem d34_22 : decode y7 22 = .ok (.iconst 1, 1) := by decide +kernel
theorem d34_23 : decode y7 23 = .ok (.putfield 32, 3) := by decide +kernel
theorem d2_31 : decode y6 31 = .ok (.lload_n 0, 1) := by decide +kernel
theorem d2_32 : decode y6 32 = .ok (.lconst 0, 1) := by decide +kernel
theorem d2_33 : decode y6 33 = .ok (.lcmp, 1) := by decide +kernel
theorem d2_34 : decode y6 34 = .ok (.ifCond .ge 19, 3) := by decide +kernel
theorem d2_53 : decode y6 53 = .ok (.new 23, 3) := by decide +kernel
theorem d2_56 : decode y6 56 = .ok (.dup, 1) := by decide +kernel
theorem d2_57 : decode y6 57 = .ok (.lload_n 0, 1) := by decide +kernel
theorem d2_58 : decode y6 58 = .ok (.invokespecial 356, 3) := by decide +kernel
theorem pd__J_V : parseMethodDescriptor "(J)V" = some ⟨[.long], none⟩ := by decide +kernel
theorem d2_61 : decode y6 61 = .ok (.areturn, 1) := by decide +kernel
theorem d2_37 : decode y6 37 = .ok (.lload_n 0, 1) := by decide +kernel
theorem d2_38 : decode y6 38 = .ok (.ldc2_w 351, 3) := by decide +kernel
theorem d2_41 : decode y6 41 = .ok (.lcmp, 1) := by decide +kernel
theorem d2_42 : decode y6 42 = .ok (.ifCond .lt 11, 3) := by decide +kernel
theorem d2_45 : decode y6 45 = .ok (.getstatic 353, 3) := by decide +kernel
theorem d2_48 : decode y6 48 = .ok (.lload_n 0, 1) := by decide +kernel
theorem d2_49 : decode y6 49 = .ok (.lneg, 1) := by decide +kernel
theorem d2_50 : decode y6 50 = .ok (.l2i, 1) := by decide +kernel
theorem d2_51 : decode y6 51 = .ok (.aaload, 1) := by decide +kernel
theorem d2_52 : decode y6 52 = .ok (.areturn, 1) := by decide +kernel
theorem d34_54 : decode y7 54 = .ok (.aload_n 0, 1) := by decide +kernel
theorem d34_55 : decode y7 55 = .ok (.iconst 2, 1) := by decide +kernel
theorem d34_56 : decode y7 56 = .ok (.newarray .int, 2) := by decide +kernel
theorem d34_58 : decode y7 58 = .ok (.putfield 28, 3) := by decide +kernel
theorem d34_61 : decode y7 61 = .ok (.aload_n 0, 1) := by decide +kernel
theorem d34_62 : decode y7 62 = .ok (.getfield 28, 3) := by decide +kernel
theorem d34_65 : decode y7 65 = .ok (.iconst 0, 1) := by decide +kernel
theorem d34_66 : decode y7 66 = .ok (.iload_n 3, 1) := by decide +kernel
theorem d34_67 : decode y7 67 = .ok (.iastore, 1) := by decide +kernel
theorem d34_68 : decode y7 68 = .ok (.aload_n 0, 1) := by decide +kernel
theorem d34_69 : decode y7 69 = .ok (.getfield 28, 3) := by decide +kernel
theorem d34_72 : decode y7 72 = .ok (.iconst 1, 1) := by decide +kernel
theorem d34_73 : decode y7 73 = .ok (.lload_n 1, 1) := by decide +kernel
theorem d34_74 : decode y7 74 = .ok (.l2i, 1) := by decide +kernel
theorem d34_75 : decode y7 75 = .ok (.iastore, 1) := by decide +kernel
theorem d3_0 : decode y36 0 = .ok (.aload_n 0, 1) := by decide +kernel
theorem d3_1 : decode y36 1 = .ok (.invokespecial 1, 3) := by decide +kernel
theorem d3_4 : decode y36 4 = .ok (.aload_n 0, 1) := by decide +kernel
theorem d3_5 : decode y36 5 = .ok (.aload_n 1, 1) := by decide +kernel
theorem d3_6 : decode y36 6 = .ok (.putfield 7, 3) := by decide +kernel
theorem d3_9 : decode y36 9 = .ok (.aload_n 0, 1) := by decide +kernel
theorem d3_10 : decode y36 10 = .ok (.aload_n 2, 1) := by decide +kernel
theorem d3_11 : decode y36 11 = .ok (.putfield 13, 3) := by decide +kernel
theorem d3_14 : decode y36 14 = .ok (.return_, 1) := by decide +kernel
theorem pn_com_example_slicewise_slicewise_Fraction : plainName "com/example/slicewise/slicewise/Fraction" = true := by first | (simp [plainName, overriddenIn]; done) | decide +kernel
theorem d1_0 : decode y39 0 = .ok (.new 8, 3) := by decide +kernel
theorem d1_3 : decode y39 3 = .ok (.dup, 1) := by decide +kernel
theorem d1_4 : decode y39 4 = .ok (.lload_n 0, 1) := by decide +kernel
theorem d1_5 : decode y39 5 = .ok (.invokestatic 50, 3) := by decide +kernel
theorem pd__J_Ljava_math_BigInteger_ : parseMethodDescriptor "(J)Ljava/math/BigInteger;" = some ⟨[.long], some (.object "java/math/BigInteger")⟩ := by decide +kernel
theorem d1_8 : decode y39 8 = .ok (.getstatic 37, 3) := by decide +kernel
theorem d1_11 : decode y39 11 = .ok (.invokespecial 47, 3) := by decide +kernel
theorem pd__Ljava_math_BigInteger_Ljava_math_BigInteger__V : parseMethodDescriptor "(Ljava/math/BigInteger;Ljava/math/BigInteger;)V" = some ⟨[(.object "java/math/BigInteger"), (.object "java/math/BigInteger")], none⟩ := by decide +kernel
theorem d1_14 : decode y39 14 = .ok (.areturn, 1) := by decide +kernel
theorem d6_0 : decode y38 0 = .ok (.aload_n 1, 1) := by decide +kernel
theorem d6_1 : decode y38 1 = .ok (.invokevirtual 16, 3) := by decide +kernel
theorem d6_4 : decode y38 4 = .ok (.ifCond .ne 13, 3) := by decide +kernel
theorem d6_17 : decode y38 17 = .ok (.aload_n 1, 1) := by decide +kernel
theorem d6_18 : decode y38 18 = .ok (.invokevirtual 16, 3) := by decide +kernel
theorem d6_21 : decode y38 21 = .ok (.ifCond .ge 13, 3) := by decide +kernel
theorem d6_34 : decode y38 34 = .ok (.aload_n 0, 1) := by decide +kernel
theorem d6_35 : decode y38 35 = .ok (.aload_n 1, 1) := by decide +kernel
theorem d6_36 : decode y38 36 = .ok (.invokevirtual 33, 3) := by decide +kernel
theorem pd__Ljava_math_BigInteger__Ljava_math_BigInteger_ : parseMethodDescriptor "(Ljava/math/BigInteger;)Ljava/math/BigInteger;" = some ⟨[(.object "java/math/BigInteger")], some (.object "java/math/BigInteger")⟩ := by decide +kernel
theorem d6_39 : decode y38 39 = .ok (.astore_n 2, 1) := by decide +kernel
theorem d6_40 : decode y38 40 = .ok (.aload_n 2, 1) := by decide +kernel
theorem d6_41 : decode y38 41 = .ok (.getstatic 37, 3) := by decide +kernel
theorem d6_44 : decode y38 44 = .ok (.invokevirtual 40, 3) := by decide +kernel
theorem pd__Ljava_lang_Object__Z : parseMethodDescriptor "(Ljava/lang/Object;)Z" = some ⟨[(.object "java/lang/Object")], some .boolean⟩ := by decide +kernel
theorem d6_47 : decode y38 47 = .ok (.ifCond .ne 15, 3) := by decide +kernel
theorem d6_62 : decode y38 62 = .ok (.new 8, 3) := by decide +kernel
theorem d6_65 : decode y38 65 = .ok (.dup, 1) := by decide +kernel
theorem d6_66 : decode y38 66 = .ok (.aload_n 0, 1) := by decide +kernel
theorem d6_67 : decode y38 67 = .ok (.aload_n 1, 1) := by decide +kernel
theorem d6_68 : decode y38 68 = .ok (.invokespecial 47, 3) := by decide +kernel
theorem d6_71 : decode y38 71 = .ok (.areturn, 1) := by decide +kernel
theorem d5_0 : decode y40 0 = .ok (.lload_n 0, 1) := by decide +kernel
theorem d5_1 : decode y40 1 = .ok (.invokestatic 50, 3) := by decide +kernel
theorem d5_4 : decode y40 4 = .ok (.lload_n 2, 1) := by decide +kernel
theorem d5_5 : decode y40 5 = .ok (.invokestatic 50, 3) := by decide +kernel
theorem d5_8 : decode y40 8 = .ok (.invokestatic 54, 3) := by decide +kernel
theorem pd__Ljava_math_BigInteger_Ljava_math_BigInteger__Lcom_example_slicewise_slicewise_Fraction_ : parseMethodDescriptor "(Ljava/math/BigInteger;Ljava/math/BigInteger;)Lcom/example/slicewise/slicewise/Fraction;" = some ⟨[(.object "java/math/BigInteger"), (.object "java/math/BigInteger")], some (.object "com/example/slicewise/slicewise/Fraction")⟩ := by decide +kernel
theorem d5_11 : decode y40 11 = .ok (.areturn, 1) := by decide +kernel
theorem d32_0 : decode y37 0 = .ok (.aload_n 1, 1) := by decide +kernel
theorem d32_1 : decode y37 1 = .ok (.instanceof 8, 3) := by decide +kernel
theorem d32_4 : decode y37 4 = .ok (.ifCond .eq 41, 3) := by decide +kernel
theorem d32_7 : decode y37 7 = .ok (.aload_n 0, 1) := by decide +kernel
theorem d32_8 : decode y37 8 = .ok (.getfield 7, 3) := by decide +kernel
theorem d32_11 : decode y37 11 = .ok (.aload_n 1, 1) := by decide +kernel
theorem d32_12 : decode y37 12 = .ok (.checkcast 8, 3) := by decide +kernel
theorem d32_15 : decode y37 15 = .ok (.getfield 7, 3) := by decide +kernel
theorem d32_18 : decode y37 18 = .ok (.invokevirtual 40, 3) := by decide +kernel
theorem d32_21 : decode y37 21 = .ok (.ifCond .eq 24, 3) := by decide +kernel
theorem d32_24 : decode y37 24 = .ok (.aload_n 0, 1) := by decide +kernel
theorem d32_25 : decode y37 25 = .ok (.getfield 13, 3) := by decide +kernel
theorem d32_28 : decode y37 28 = .ok (.aload_n 1, 1) := by decide +kernel
theorem d32_29 : decode y37 29 = .ok (.checkcast 8, 3) := by decide +kernel
theorem d32_32 : decode y37 32 = .ok (.getfield 13, 3) := by decide +kernel
theorem d32_35 : decode y37 35 = .ok (.invokevirtual 40, 3) := by decide +kernel
theorem d32_38 : decode y37 38 = .ok (.ifCond .eq 7, 3) := by decide +kernel
theorem d32_41 : decode y37 41 = .ok (.iconst 1, 1) := by decide +kernel
theorem d32_42 : decode y37 42 = .ok (.goto 4, 3) := by decide +kernel
theorem d32_46 : decode y37 46 = .ok (.ireturn, 1) := by decide +kernel
theorem d33_0 : decode y34 0 = .ok (.aload_n 0, 1) := by decide +kernel
theorem d33_1 : decode y34 1 = .ok (.getfield 7, 3) := by decide +kernel
theorem d33_4 : decode y34 4 = .ok (.invokevirtual 16, 3) := by decide +kernel
theorem d33_7 : decode y34 7 = .ok (.ireturn, 1) := by decide +kernel
theorem d24_0 : decode y35 0 = .ok (.aload_n 0, 1) := by decide +kernel
theorem d24_1 : decode y35 1 = .ok (.getfield 7, 3) := by decide +kernel
theorem d24_4 : decode y35 4 = .ok (.aload_n 1, 1) := by decide +kernel
theorem d24_5 : decode y35 5 = .ok (.getfield 13, 3) := by decide +kernel
theorem d24_8 : decode y35 8 = .ok (.invokevirtual 76, 3) := by decide +kernel
theorem d24_11 : decode y35 11 = .ok (.aload_n 1, 1) := by decide +kernel
theorem d24_12 : decode y35 12 = .ok (.getfield 7, 3) := by decide +kernel
theorem d24_15 : decode y35 15 = .ok (.aload_n 0, 1) := by decide +kernel
theorem d24_16 : decode y35 16 = .ok (.getfield 13, 3) := by decide +kernel
theorem d24_19 : decode y35 19 = .ok (.invokevirtual 76, 3) := by decide +kernel
theorem d24_22 : decode y35 22 = .ok (.invokevirtual 116, 3) := by decide +kernel
theorem d24_25 : decode y35 25 = .ok (.ireturn, 1) := by decide +kernel
theorem pd__J_Lcom_example_slicewise_slicewise_Fraction_ : parseMethodDescriptor "(J)Lcom/example/slicewise/slicewise/Fraction;" = some ⟨[.long], some (.object "com/example/slicewise/slicewise/Fraction")⟩ := by decide +kernel
theorem pd__JJ_Lcom_example_slicewise_slicewise_Fraction_ : parseMethodDescriptor "(JJ)Lcom/example/slicewise/slicewise/Fraction;" = some ⟨[.long, .long], some (.object "com/example/slicewise/slicewise/Fraction")⟩ := by decide +kernel
theorem pd__Lcom_example_slicewise_slicewise_Fraction__I : parseMethodDescriptor "(Lcom/example/slicewise/slicewise/Fraction;)I" = some ⟨[(.object "com/example/slicewise/slicewise/Fraction")], some .int⟩ := by decide +kernel
theorem pn_com_example_slicewise_slicewise_FractionOfPinLaw : plainName "com/example/slicewise/slicewise/FractionOfPinLaw" = true := by first | (simp [plainName, overriddenIn]; done) | decide +kernel
theorem ct_ntz1 (l : Launch) (Z : State) (a0 : Array Value) (hw : HW a0 Z) {one t1 zero t0 pos neg : Addr} {k1 k0 kp kn : ClassId} {pvs nvs : List Value} (am : Amb Z a0 one t1 zero t0 pos neg k1 k0 kp kn pvs nvs) {h0 : Heap} :
    Py l Z (⟨"java/lang/Integer", "numberOfTrailingZeros", "(I)I"⟩ : MethodName) 1 13 0 0 #[.int 1] h0 [] (fun rv h' => rv = some (.int 0) ∧ h' = h0) := by
  refine Ct.py (by0 := y31) (ml := 2) (rt := (some .int)) (rm := ({ frames := 0, cells := 0, slots := 0, locals := 0 } : Room)) ?_ (hq hw 97 rfl) (hq hw 96 rfl)
  refine Ct.mk (a0 := a0) (Ls := #[.val (.int 1), .unset]) (plainFor_of_name pn_java_lang_Integer) (fun m => by simp [entryFrame, mkF, argsToLocals, Value.category]) ?_
  intro κ C
  show Go l _ Z _ _ _ κ [] h0 0 #[.val (.int 1), .unset] [] 0 0
  refine ob' C 1 d16_0 rfl rfl (oe' C 2 (-1 : Int32) d16_1 rfl (by decide) (ol2' C 3 (-2 : Int32) d16_2 rfl (by decide) (ob' C 4 d16_3 rfl rfl (oe' C 5 (1 : Int32) d16_4 rfl (by decide) ?_))))
  refine ow' C 6 (0 : Int32) d16_5 rfl (by decide) (od1' C 7 (0 : Int32) d16_6 rfl (by decide) (oh' C 8 (Ls' := #[.val (.int 0), .unset]) d16_7 rfl rfl (ob' C 9 d16_8 rfl rfl (or' C 12 d16_9 rfl (by decide) ?_))))
  refine ob' C 13 d16_12 rfl rfl (om' C 15 (32 : Int32) d16_13 rfl (by decide) (od1' C 16 (0 : Int32) d16_15 rfl (by decide) (op' C d16_16 rfl (by decide) (by decide) ?_)))
  exact ⟨rfl, rfl⟩
theorem ct_ntz (l : Launch) (Z : State) (a0 : Array Value) (hw : HW a0 Z) {one t1 zero t0 pos neg : Addr} {k1 k0 kp kn : ClassId} {pvs nvs : List Value} (am : Amb Z a0 one t1 zero t0 pos neg k1 k0 kp kn pvs nvs) {x : Int32} {h0 : Heap} (hx : ¬ (x = (0 : Int32))) :
    Py l Z (⟨"java/lang/Integer", "numberOfTrailingZeros", "(I)I"⟩ : MethodName) 1 13 0 0 #[.int x] h0 [] (fun rv h' => ∃ (t : Int32), rv = some (.int t) ∧ h' = h0 ∧ (Tz x t)) := by
  refine Ct.py (by0 := y31) (ml := 2) (rt := (some .int)) (rm := ({ frames := 0, cells := 0, slots := 0, locals := 0 } : Room)) ?_ (hq hw 97 rfl) (hq hw 96 rfl)
  refine Ct.mk (a0 := a0) (Ls := #[.val (.int x), .unset]) (plainFor_of_name pn_java_lang_Integer) (fun m => by simp [entryFrame, mkF, argsToLocals, Value.category]) ?_
  intro κ C
  show Go l _ Z _ _ _ κ [] h0 0 #[.val (.int x), .unset] [] 0 0
  refine ob' C 1 d16_0 rfl rfl (oe' C 2 (-1 : Int32) d16_1 rfl (by decide) (ol2' C 3 (x ^^^ (-1 : Int32)) d16_2 rfl rfl (ob' C 4 d16_3 rfl rfl (oe' C 5 (1 : Int32) d16_4 rfl (by decide) ?_))))
  refine ow' C 6 (x - (1 : Int32)) d16_5 rfl rfl ?_
  rcases ntz_cases hx with ⟨ec1, et⟩ | ⟨ec1, et⟩ | ⟨ec1, et⟩ | ⟨ec1, et⟩ | ⟨ec1, et⟩ | ⟨ec1, et⟩ | ⟨ec1, et⟩ | ⟨ec1, et⟩ | ⟨ec1, et⟩ | ⟨ec1, et⟩ | ⟨ec1, et⟩ | ⟨ec1, et⟩ | ⟨ec1, et⟩ | ⟨ec1, et⟩ | ⟨ec1, et⟩ | ⟨ec1, et⟩ | ⟨ec1, et⟩ | ⟨ec1, et⟩ | ⟨ec1, et⟩ | ⟨ec1, et⟩ | ⟨ec1, et⟩ | ⟨ec1, et⟩ | ⟨ec1, et⟩ | ⟨ec1, et⟩ | ⟨ec1, et⟩ | ⟨ec1, et⟩ | ⟨ec1, et⟩ | ⟨ec1, et⟩ | ⟨ec1, et⟩ | ⟨ec1, et⟩ | ⟨ec1, et⟩ | ⟨ec1, et⟩
  · skip
    refine od1' C 7 (0 : Int32) d16_6 rfl ec1 (oh' C 8 (Ls' := #[.val (.int 0), .unset]) d16_7 rfl rfl (ob' C 9 d16_8 rfl rfl (or' C 12 d16_9 rfl (by decide) (ob' C 13 d16_12 rfl rfl ?_))))
    refine om' C 15 (32 : Int32) d16_13 rfl (by decide) (od1' C 16 (0 : Int32) d16_15 rfl (by decide) (op' C d16_16 rfl (by decide) (by decide) ?_))
    exact ⟨(0 : Int32), rfl, rfl, et⟩
  · skip
    refine od1' C 7 (1 : Int32) d16_6 rfl ec1 (oh' C 8 (Ls' := #[.val (.int 1), .unset]) d16_7 rfl rfl (ob' C 9 d16_8 rfl rfl (on' C (pc' := 17) d16_9 (by decide) (by decide) (by decide) (oe' C 18 (1 : Int32) d16_17 rfl (by decide) ?_))))
    refine oh' C 19 (Ls' := #[.val (.int 1), .val (.int 1)]) d16_18 rfl rfl (ob' C 20 d16_19 rfl rfl (ov' C 23 (v := (65536 : Int32)) d16_20 rfl (hq hw 107 rfl) (oj' C (pc' := 34) d16_23 (by decide) (by decide) (by decide) (ob' C 35 d16_34 rfl rfl ?_))))
    refine ox' C 38 (256 : Int32) d16_35 rfl (by decide) (oj' C (pc' := 49) d16_38 (by decide) (by decide) (by decide) (ob' C 50 d16_49 rfl rfl (om' C 52 (16 : Int32) d16_50 rfl (by decide) (oj' C (pc' := 62) d16_52 (by decide) (by decide) (by decide) ?_))))
    refine ob' C 63 d16_62 rfl rfl (oe' C 64 (4 : Int32) d16_63 rfl (by decide) (oj' C (pc' := 74) d16_64 (by decide) (by decide) (by decide) (ob' C 75 d16_74 rfl rfl (ob' C 76 d16_75 rfl rfl ?_))))
    refine oe' C 77 (1 : Int32) d16_76 rfl (by decide) (ok' C 78 (0 : Int32) d16_77 rfl (by decide) (oz' C 79 (1 : Int32) d16_78 rfl (by decide) (op' C d16_79 rfl (by decide) (by decide) ?_)))
    exact ⟨(1 : Int32), rfl, rfl, et⟩
  · skip
    refine od1' C 7 (3 : Int32) d16_6 rfl ec1 (oh' C 8 (Ls' := #[.val (.int 3), .unset]) d16_7 rfl rfl (ob' C 9 d16_8 rfl rfl (on' C (pc' := 17) d16_9 (by decide) (by decide) (by decide) (oe' C 18 (1 : Int32) d16_17 rfl (by decide) ?_))))
    refine oh' C 19 (Ls' := #[.val (.int 3), .val (.int 1)]) d16_18 rfl rfl (ob' C 20 d16_19 rfl rfl (ov' C 23 (v := (65536 : Int32)) d16_20 rfl (hq hw 107 rfl) (oj' C (pc' := 34) d16_23 (by decide) (by decide) (by decide) (ob' C 35 d16_34 rfl rfl ?_))))
    refine ox' C 38 (256 : Int32) d16_35 rfl (by decide) (oj' C (pc' := 49) d16_38 (by decide) (by decide) (by decide) (ob' C 50 d16_49 rfl rfl (om' C 52 (16 : Int32) d16_50 rfl (by decide) (oj' C (pc' := 62) d16_52 (by decide) (by decide) (by decide) ?_))))
    refine ob' C 63 d16_62 rfl rfl (oe' C 64 (4 : Int32) d16_63 rfl (by decide) (oj' C (pc' := 74) d16_64 (by decide) (by decide) (by decide) (ob' C 75 d16_74 rfl rfl (ob' C 76 d16_75 rfl rfl ?_))))
    refine oe' C 77 (1 : Int32) d16_76 rfl (by decide) (ok' C 78 (1 : Int32) d16_77 rfl (by decide) (oz' C 79 (2 : Int32) d16_78 rfl (by decide) (op' C d16_79 rfl (by decide) (by decide) ?_)))
    exact ⟨(2 : Int32), rfl, rfl, et⟩
  · skip
    refine od1' C 7 (7 : Int32) d16_6 rfl ec1 (oh' C 8 (Ls' := #[.val (.int 7), .unset]) d16_7 rfl rfl (ob' C 9 d16_8 rfl rfl (on' C (pc' := 17) d16_9 (by decide) (by decide) (by decide) (oe' C 18 (1 : Int32) d16_17 rfl (by decide) ?_))))
    refine oh' C 19 (Ls' := #[.val (.int 7), .val (.int 1)]) d16_18 rfl rfl (ob' C 20 d16_19 rfl rfl (ov' C 23 (v := (65536 : Int32)) d16_20 rfl (hq hw 107 rfl) (oj' C (pc' := 34) d16_23 (by decide) (by decide) (by decide) (ob' C 35 d16_34 rfl rfl ?_))))
    refine ox' C 38 (256 : Int32) d16_35 rfl (by decide) (oj' C (pc' := 49) d16_38 (by decide) (by decide) (by decide) (ob' C 50 d16_49 rfl rfl (om' C 52 (16 : Int32) d16_50 rfl (by decide) (oj' C (pc' := 62) d16_52 (by decide) (by decide) (by decide) ?_))))
    refine ob' C 63 d16_62 rfl rfl (oe' C 64 (4 : Int32) d16_63 rfl (by decide) (ol' C 67 d16_64 rfl (by decide) (oo' C 70 (Ls' := #[.val (.int 7), .val (.int 3)]) (2 : Int32) d16_67 rfl (by decide) rfl rfl (ob' C 71 d16_70 rfl rfl ?_))))
    refine oe' C 72 (2 : Int32) d16_71 rfl (by decide) (ok' C 73 (1 : Int32) d16_72 rfl (by decide) (oh' C 74 (Ls' := #[.val (.int 1), .val (.int 3)]) d16_73 rfl rfl (ob' C 75 d16_74 rfl rfl (ob' C 76 d16_75 rfl rfl ?_))))
    refine oe' C 77 (1 : Int32) d16_76 rfl (by decide) (ok' C 78 (0 : Int32) d16_77 rfl (by decide) (oz' C 79 (3 : Int32) d16_78 rfl (by decide) (op' C d16_79 rfl (by decide) (by decide) ?_)))
    exact ⟨(3 : Int32), rfl, rfl, et⟩
  · skip
    refine od1' C 7 (15 : Int32) d16_6 rfl ec1 (oh' C 8 (Ls' := #[.val (.int 15), .unset]) d16_7 rfl rfl (ob' C 9 d16_8 rfl rfl (on' C (pc' := 17) d16_9 (by decide) (by decide) (by decide) (oe' C 18 (1 : Int32) d16_17 rfl (by decide) ?_))))
    refine oh' C 19 (Ls' := #[.val (.int 15), .val (.int 1)]) d16_18 rfl rfl (ob' C 20 d16_19 rfl rfl (ov' C 23 (v := (65536 : Int32)) d16_20 rfl (hq hw 107 rfl) (oj' C (pc' := 34) d16_23 (by decide) (by decide) (by decide) (ob' C 35 d16_34 rfl rfl ?_))))
    refine ox' C 38 (256 : Int32) d16_35 rfl (by decide) (oj' C (pc' := 49) d16_38 (by decide) (by decide) (by decide) (ob' C 50 d16_49 rfl rfl (om' C 52 (16 : Int32) d16_50 rfl (by decide) (oj' C (pc' := 62) d16_52 (by decide) (by decide) (by decide) ?_))))
    refine ob' C 63 d16_62 rfl rfl (oe' C 64 (4 : Int32) d16_63 rfl (by decide) (ol' C 67 d16_64 rfl (by decide) (oo' C 70 (Ls' := #[.val (.int 15), .val (.int 3)]) (2 : Int32) d16_67 rfl (by decide) rfl rfl (ob' C 71 d16_70 rfl rfl ?_))))
    refine oe' C 72 (2 : Int32) d16_71 rfl (by decide) (ok' C 73 (3 : Int32) d16_72 rfl (by decide) (oh' C 74 (Ls' := #[.val (.int 3), .val (.int 3)]) d16_73 rfl rfl (ob' C 75 d16_74 rfl rfl (ob' C 76 d16_75 rfl rfl ?_))))
    refine oe' C 77 (1 : Int32) d16_76 rfl (by decide) (ok' C 78 (1 : Int32) d16_77 rfl (by decide) (oz' C 79 (4 : Int32) d16_78 rfl (by decide) (op' C d16_79 rfl (by decide) (by decide) ?_)))
    exact ⟨(4 : Int32), rfl, rfl, et⟩
  · skip
    refine od1' C 7 (31 : Int32) d16_6 rfl ec1 (oh' C 8 (Ls' := #[.val (.int 31), .unset]) d16_7 rfl rfl (ob' C 9 d16_8 rfl rfl (on' C (pc' := 17) d16_9 (by decide) (by decide) (by decide) (oe' C 18 (1 : Int32) d16_17 rfl (by decide) ?_))))
    refine oh' C 19 (Ls' := #[.val (.int 31), .val (.int 1)]) d16_18 rfl rfl (ob' C 20 d16_19 rfl rfl (ov' C 23 (v := (65536 : Int32)) d16_20 rfl (hq hw 107 rfl) (oj' C (pc' := 34) d16_23 (by decide) (by decide) (by decide) (ob' C 35 d16_34 rfl rfl ?_))))
    refine ox' C 38 (256 : Int32) d16_35 rfl (by decide) (oj' C (pc' := 49) d16_38 (by decide) (by decide) (by decide) (ob' C 50 d16_49 rfl rfl (om' C 52 (16 : Int32) d16_50 rfl (by decide) (ol' C 55 d16_52 rfl (by decide) ?_))))
    refine oo' C 58 (Ls' := #[.val (.int 31), .val (.int 5)]) (4 : Int32) d16_55 rfl (by decide) rfl rfl (ob' C 59 d16_58 rfl rfl (oe' C 60 (4 : Int32) d16_59 rfl (by decide) (ok' C 61 (1 : Int32) d16_60 rfl (by decide) (oh' C 62 (Ls' := #[.val (.int 1), .val (.int 5)]) d16_61 rfl rfl ?_))))
    refine ob' C 63 d16_62 rfl rfl (oe' C 64 (4 : Int32) d16_63 rfl (by decide) (oj' C (pc' := 74) d16_64 (by decide) (by decide) (by decide) (ob' C 75 d16_74 rfl rfl (ob' C 76 d16_75 rfl rfl ?_))))
    refine oe' C 77 (1 : Int32) d16_76 rfl (by decide) (ok' C 78 (0 : Int32) d16_77 rfl (by decide) (oz' C 79 (5 : Int32) d16_78 rfl (by decide) (op' C d16_79 rfl (by decide) (by decide) ?_)))
    exact ⟨(5 : Int32), rfl, rfl, et⟩
  · skip
    refine od1' C 7 (63 : Int32) d16_6 rfl ec1 (oh' C 8 (Ls' := #[.val (.int 63), .unset]) d16_7 rfl rfl (ob' C 9 d16_8 rfl rfl (on' C (pc' := 17) d16_9 (by decide) (by decide) (by decide) (oe' C 18 (1 : Int32) d16_17 rfl (by decide) ?_))))
    refine oh' C 19 (Ls' := #[.val (.int 63), .val (.int 1)]) d16_18 rfl rfl (ob' C 20 d16_19 rfl rfl (ov' C 23 (v := (65536 : Int32)) d16_20 rfl (hq hw 107 rfl) (oj' C (pc' := 34) d16_23 (by decide) (by decide) (by decide) (ob' C 35 d16_34 rfl rfl ?_))))
    refine ox' C 38 (256 : Int32) d16_35 rfl (by decide) (oj' C (pc' := 49) d16_38 (by decide) (by decide) (by decide) (ob' C 50 d16_49 rfl rfl (om' C 52 (16 : Int32) d16_50 rfl (by decide) (ol' C 55 d16_52 rfl (by decide) ?_))))
    refine oo' C 58 (Ls' := #[.val (.int 63), .val (.int 5)]) (4 : Int32) d16_55 rfl (by decide) rfl rfl (ob' C 59 d16_58 rfl rfl (oe' C 60 (4 : Int32) d16_59 rfl (by decide) (ok' C 61 (3 : Int32) d16_60 rfl (by decide) (oh' C 62 (Ls' := #[.val (.int 3), .val (.int 5)]) d16_61 rfl rfl ?_))))
    refine ob' C 63 d16_62 rfl rfl (oe' C 64 (4 : Int32) d16_63 rfl (by decide) (oj' C (pc' := 74) d16_64 (by decide) (by decide) (by decide) (ob' C 75 d16_74 rfl rfl (ob' C 76 d16_75 rfl rfl ?_))))
    refine oe' C 77 (1 : Int32) d16_76 rfl (by decide) (ok' C 78 (1 : Int32) d16_77 rfl (by decide) (oz' C 79 (6 : Int32) d16_78 rfl (by decide) (op' C d16_79 rfl (by decide) (by decide) ?_)))
    exact ⟨(6 : Int32), rfl, rfl, et⟩
  · skip
    refine od1' C 7 (127 : Int32) d16_6 rfl ec1 (oh' C 8 (Ls' := #[.val (.int 127), .unset]) d16_7 rfl rfl (ob' C 9 d16_8 rfl rfl (on' C (pc' := 17) d16_9 (by decide) (by decide) (by decide) (oe' C 18 (1 : Int32) d16_17 rfl (by decide) ?_))))
    refine oh' C 19 (Ls' := #[.val (.int 127), .val (.int 1)]) d16_18 rfl rfl (ob' C 20 d16_19 rfl rfl (ov' C 23 (v := (65536 : Int32)) d16_20 rfl (hq hw 107 rfl) (oj' C (pc' := 34) d16_23 (by decide) (by decide) (by decide) (ob' C 35 d16_34 rfl rfl ?_))))
    refine ox' C 38 (256 : Int32) d16_35 rfl (by decide) (oj' C (pc' := 49) d16_38 (by decide) (by decide) (by decide) (ob' C 50 d16_49 rfl rfl (om' C 52 (16 : Int32) d16_50 rfl (by decide) (ol' C 55 d16_52 rfl (by decide) ?_))))
    refine oo' C 58 (Ls' := #[.val (.int 127), .val (.int 5)]) (4 : Int32) d16_55 rfl (by decide) rfl rfl (ob' C 59 d16_58 rfl rfl (oe' C 60 (4 : Int32) d16_59 rfl (by decide) (ok' C 61 (7 : Int32) d16_60 rfl (by decide) (oh' C 62 (Ls' := #[.val (.int 7), .val (.int 5)]) d16_61 rfl rfl ?_))))
    refine ob' C 63 d16_62 rfl rfl (oe' C 64 (4 : Int32) d16_63 rfl (by decide) (ol' C 67 d16_64 rfl (by decide) (oo' C 70 (Ls' := #[.val (.int 7), .val (.int 7)]) (2 : Int32) d16_67 rfl (by decide) rfl rfl (ob' C 71 d16_70 rfl rfl ?_))))
    refine oe' C 72 (2 : Int32) d16_71 rfl (by decide) (ok' C 73 (1 : Int32) d16_72 rfl (by decide) (oh' C 74 (Ls' := #[.val (.int 1), .val (.int 7)]) d16_73 rfl rfl (ob' C 75 d16_74 rfl rfl (ob' C 76 d16_75 rfl rfl ?_))))
    refine oe' C 77 (1 : Int32) d16_76 rfl (by decide) (ok' C 78 (0 : Int32) d16_77 rfl (by decide) (oz' C 79 (7 : Int32) d16_78 rfl (by decide) (op' C d16_79 rfl (by decide) (by decide) ?_)))
    exact ⟨(7 : Int32), rfl, rfl, et⟩
  · skip
    refine od1' C 7 (255 : Int32) d16_6 rfl ec1 (oh' C 8 (Ls' := #[.val (.int 255), .unset]) d16_7 rfl rfl (ob' C 9 d16_8 rfl rfl (on' C (pc' := 17) d16_9 (by decide) (by decide) (by decide) (oe' C 18 (1 : Int32) d16_17 rfl (by decide) ?_))))
    refine oh' C 19 (Ls' := #[.val (.int 255), .val (.int 1)]) d16_18 rfl rfl (ob' C 20 d16_19 rfl rfl (ov' C 23 (v := (65536 : Int32)) d16_20 rfl (hq hw 107 rfl) (oj' C (pc' := 34) d16_23 (by decide) (by decide) (by decide) (ob' C 35 d16_34 rfl rfl ?_))))
    refine ox' C 38 (256 : Int32) d16_35 rfl (by decide) (oj' C (pc' := 49) d16_38 (by decide) (by decide) (by decide) (ob' C 50 d16_49 rfl rfl (om' C 52 (16 : Int32) d16_50 rfl (by decide) (ol' C 55 d16_52 rfl (by decide) ?_))))
    refine oo' C 58 (Ls' := #[.val (.int 255), .val (.int 5)]) (4 : Int32) d16_55 rfl (by decide) rfl rfl (ob' C 59 d16_58 rfl rfl (oe' C 60 (4 : Int32) d16_59 rfl (by decide) (ok' C 61 (15 : Int32) d16_60 rfl (by decide) (oh' C 62 (Ls' := #[.val (.int 15), .val (.int 5)]) d16_61 rfl rfl ?_))))
    refine ob' C 63 d16_62 rfl rfl (oe' C 64 (4 : Int32) d16_63 rfl (by decide) (ol' C 67 d16_64 rfl (by decide) (oo' C 70 (Ls' := #[.val (.int 15), .val (.int 7)]) (2 : Int32) d16_67 rfl (by decide) rfl rfl (ob' C 71 d16_70 rfl rfl ?_))))
    refine oe' C 72 (2 : Int32) d16_71 rfl (by decide) (ok' C 73 (3 : Int32) d16_72 rfl (by decide) (oh' C 74 (Ls' := #[.val (.int 3), .val (.int 7)]) d16_73 rfl rfl (ob' C 75 d16_74 rfl rfl (ob' C 76 d16_75 rfl rfl ?_))))
    refine oe' C 77 (1 : Int32) d16_76 rfl (by decide) (ok' C 78 (1 : Int32) d16_77 rfl (by decide) (oz' C 79 (8 : Int32) d16_78 rfl (by decide) (op' C d16_79 rfl (by decide) (by decide) ?_)))
    exact ⟨(8 : Int32), rfl, rfl, et⟩
  · skip
    refine od1' C 7 (511 : Int32) d16_6 rfl ec1 (oh' C 8 (Ls' := #[.val (.int 511), .unset]) d16_7 rfl rfl (ob' C 9 d16_8 rfl rfl (on' C (pc' := 17) d16_9 (by decide) (by decide) (by decide) (oe' C 18 (1 : Int32) d16_17 rfl (by decide) ?_))))
    refine oh' C 19 (Ls' := #[.val (.int 511), .val (.int 1)]) d16_18 rfl rfl (ob' C 20 d16_19 rfl rfl (ov' C 23 (v := (65536 : Int32)) d16_20 rfl (hq hw 107 rfl) (oj' C (pc' := 34) d16_23 (by decide) (by decide) (by decide) (ob' C 35 d16_34 rfl rfl ?_))))
    refine ox' C 38 (256 : Int32) d16_35 rfl (by decide) (ol' C 41 d16_38 rfl (by decide) (oo' C 44 (Ls' := #[.val (.int 511), .val (.int 9)]) (8 : Int32) d16_41 rfl (by decide) rfl rfl (ob' C 45 d16_44 rfl rfl (om' C 47 (8 : Int32) d16_45 rfl (by decide) ?_))))
    refine ok' C 48 (1 : Int32) d16_47 rfl (by decide) (oh' C 49 (Ls' := #[.val (.int 1), .val (.int 9)]) d16_48 rfl rfl (ob' C 50 d16_49 rfl rfl (om' C 52 (16 : Int32) d16_50 rfl (by decide) (oj' C (pc' := 62) d16_52 (by decide) (by decide) (by decide) ?_))))
    refine ob' C 63 d16_62 rfl rfl (oe' C 64 (4 : Int32) d16_63 rfl (by decide) (oj' C (pc' := 74) d16_64 (by decide) (by decide) (by decide) (ob' C 75 d16_74 rfl rfl (ob' C 76 d16_75 rfl rfl ?_))))
    refine oe' C 77 (1 : Int32) d16_76 rfl (by decide) (ok' C 78 (0 : Int32) d16_77 rfl (by decide) (oz' C 79 (9 : Int32) d16_78 rfl (by decide) (op' C d16_79 rfl (by decide) (by decide) ?_)))
    exact ⟨(9 : Int32), rfl, rfl, et⟩
  · skip
    refine od1' C 7 (1023 : Int32) d16_6 rfl ec1 (oh' C 8 (Ls' := #[.val (.int 1023), .unset]) d16_7 rfl rfl (ob' C 9 d16_8 rfl rfl (on' C (pc' := 17) d16_9 (by decide) (by decide) (by decide) (oe' C 18 (1 : Int32) d16_17 rfl (by decide) ?_))))
    refine oh' C 19 (Ls' := #[.val (.int 1023), .val (.int 1)]) d16_18 rfl rfl (ob' C 20 d16_19 rfl rfl (ov' C 23 (v := (65536 : Int32)) d16_20 rfl (hq hw 107 rfl) (oj' C (pc' := 34) d16_23 (by decide) (by decide) (by decide) (ob' C 35 d16_34 rfl rfl ?_))))
    refine ox' C 38 (256 : Int32) d16_35 rfl (by decide) (ol' C 41 d16_38 rfl (by decide) (oo' C 44 (Ls' := #[.val (.int 1023), .val (.int 9)]) (8 : Int32) d16_41 rfl (by decide) rfl rfl (ob' C 45 d16_44 rfl rfl (om' C 47 (8 : Int32) d16_45 rfl (by decide) ?_))))
    refine ok' C 48 (3 : Int32) d16_47 rfl (by decide) (oh' C 49 (Ls' := #[.val (.int 3), .val (.int 9)]) d16_48 rfl rfl (ob' C 50 d16_49 rfl rfl (om' C 52 (16 : Int32) d16_50 rfl (by decide) (oj' C (pc' := 62) d16_52 (by decide) (by decide) (by decide) ?_))))
    refine ob' C 63 d16_62 rfl rfl (oe' C 64 (4 : Int32) d16_63 rfl (by decide) (oj' C (pc' := 74) d16_64 (by decide) (by decide) (by decide) (ob' C 75 d16_74 rfl rfl (ob' C 76 d16_75 rfl rfl ?_))))
    refine oe' C 77 (1 : Int32) d16_76 rfl (by decide) (ok' C 78 (1 : Int32) d16_77 rfl (by decide) (oz' C 79 (10 : Int32) d16_78 rfl (by decide) (op' C d16_79 rfl (by decide) (by decide) ?_)))
    exact ⟨(10 : Int32), rfl, rfl, et⟩
  · skip
    refine od1' C 7 (2047 : Int32) d16_6 rfl ec1 (oh' C 8 (Ls' := #[.val (.int 2047), .unset]) d16_7 rfl rfl (ob' C 9 d16_8 rfl rfl (on' C (pc' := 17) d16_9 (by decide) (by decide) (by decide) (oe' C 18 (1 : Int32) d16_17 rfl (by decide) ?_))))
    refine oh' C 19 (Ls' := #[.val (.int 2047), .val (.int 1)]) d16_18 rfl rfl (ob' C 20 d16_19 rfl rfl (ov' C 23 (v := (65536 : Int32)) d16_20 rfl (hq hw 107 rfl) (oj' C (pc' := 34) d16_23 (by decide) (by decide) (by decide) (ob' C 35 d16_34 rfl rfl ?_))))
    refine ox' C 38 (256 : Int32) d16_35 rfl (by decide) (ol' C 41 d16_38 rfl (by decide) (oo' C 44 (Ls' := #[.val (.int 2047), .val (.int 9)]) (8 : Int32) d16_41 rfl (by decide) rfl rfl (ob' C 45 d16_44 rfl rfl (om' C 47 (8 : Int32) d16_45 rfl (by decide) ?_))))
    refine ok' C 48 (7 : Int32) d16_47 rfl (by decide) (oh' C 49 (Ls' := #[.val (.int 7), .val (.int 9)]) d16_48 rfl rfl (ob' C 50 d16_49 rfl rfl (om' C 52 (16 : Int32) d16_50 rfl (by decide) (oj' C (pc' := 62) d16_52 (by decide) (by decide) (by decide) ?_))))
    refine ob' C 63 d16_62 rfl rfl (oe' C 64 (4 : Int32) d16_63 rfl (by decide) (ol' C 67 d16_64 rfl (by decide) (oo' C 70 (Ls' := #[.val (.int 7), .val (.int 11)]) (2 : Int32) d16_67 rfl (by decide) rfl rfl (ob' C 71 d16_70 rfl rfl ?_))))
    refine oe' C 72 (2 : Int32) d16_71 rfl (by decide) (ok' C 73 (1 : Int32) d16_72 rfl (by decide) (oh' C 74 (Ls' := #[.val (.int 1), .val (.int 11)]) d16_73 rfl rfl (ob' C 75 d16_74 rfl rfl (ob' C 76 d16_75 rfl rfl ?_))))
    refine oe' C 77 (1 : Int32) d16_76 rfl (by decide) (ok' C 78 (0 : Int32) d16_77 rfl (by decide) (oz' C 79 (11 : Int32) d16_78 rfl (by decide) (op' C d16_79 rfl (by decide) (by decide) ?_)))
    exact ⟨(11 : Int32), rfl, rfl, et⟩
  · skip
    refine od1' C 7 (4095 : Int32) d16_6 rfl ec1 (oh' C 8 (Ls' := #[.val (.int 4095), .unset]) d16_7 rfl rfl (ob' C 9 d16_8 rfl rfl (on' C (pc' := 17) d16_9 (by decide) (by decide) (by decide) (oe' C 18 (1 : Int32) d16_17 rfl (by decide) ?_))))
    refine oh' C 19 (Ls' := #[.val (.int 4095), .val (.int 1)]) d16_18 rfl rfl (ob' C 20 d16_19 rfl rfl (ov' C 23 (v := (65536 : Int32)) d16_20 rfl (hq hw 107 rfl) (oj' C (pc' := 34) d16_23 (by decide) (by decide) (by decide) (ob' C 35 d16_34 rfl rfl ?_))))
    refine ox' C 38 (256 : Int32) d16_35 rfl (by decide) (ol' C 41 d16_38 rfl (by decide) (oo' C 44 (Ls' := #[.val (.int 4095), .val (.int 9)]) (8 : Int32) d16_41 rfl (by decide) rfl rfl (ob' C 45 d16_44 rfl rfl (om' C 47 (8 : Int32) d16_45 rfl (by decide) ?_))))
    refine ok' C 48 (15 : Int32) d16_47 rfl (by decide) (oh' C 49 (Ls' := #[.val (.int 15), .val (.int 9)]) d16_48 rfl rfl (ob' C 50 d16_49 rfl rfl (om' C 52 (16 : Int32) d16_50 rfl (by decide) (oj' C (pc' := 62) d16_52 (by decide) (by decide) (by decide) ?_))))
    refine ob' C 63 d16_62 rfl rfl (oe' C 64 (4 : Int32) d16_63 rfl (by decide) (ol' C 67 d16_64 rfl (by decide) (oo' C 70 (Ls' := #[.val (.int 15), .val (.int 11)]) (2 : Int32) d16_67 rfl (by decide) rfl rfl (ob' C 71 d16_70 rfl rfl ?_))))
    refine oe' C 72 (2 : Int32) d16_71 rfl (by decide) (ok' C 73 (3 : Int32) d16_72 rfl (by decide) (oh' C 74 (Ls' := #[.val (.int 3), .val (.int 11)]) d16_73 rfl rfl (ob' C 75 d16_74 rfl rfl (ob' C 76 d16_75 rfl rfl ?_))))
    refine oe' C 77 (1 : Int32) d16_76 rfl (by decide) (ok' C 78 (1 : Int32) d16_77 rfl (by decide) (oz' C 79 (12 : Int32) d16_78 rfl (by decide) (op' C d16_79 rfl (by decide) (by decide) ?_)))
    exact ⟨(12 : Int32), rfl, rfl, et⟩
  · skip
    refine od1' C 7 (8191 : Int32) d16_6 rfl ec1 (oh' C 8 (Ls' := #[.val (.int 8191), .unset]) d16_7 rfl rfl (ob' C 9 d16_8 rfl rfl (on' C (pc' := 17) d16_9 (by decide) (by decide) (by decide) (oe' C 18 (1 : Int32) d16_17 rfl (by decide) ?_))))
    refine oh' C 19 (Ls' := #[.val (.int 8191), .val (.int 1)]) d16_18 rfl rfl (ob' C 20 d16_19 rfl rfl (ov' C 23 (v := (65536 : Int32)) d16_20 rfl (hq hw 107 rfl) (oj' C (pc' := 34) d16_23 (by decide) (by decide) (by decide) (ob' C 35 d16_34 rfl rfl ?_))))
    refine ox' C 38 (256 : Int32) d16_35 rfl (by decide) (ol' C 41 d16_38 rfl (by decide) (oo' C 44 (Ls' := #[.val (.int 8191), .val (.int 9)]) (8 : Int32) d16_41 rfl (by decide) rfl rfl (ob' C 45 d16_44 rfl rfl (om' C 47 (8 : Int32) d16_45 rfl (by decide) ?_))))
    refine ok' C 48 (31 : Int32) d16_47 rfl (by decide) (oh' C 49 (Ls' := #[.val (.int 31), .val (.int 9)]) d16_48 rfl rfl (ob' C 50 d16_49 rfl rfl (om' C 52 (16 : Int32) d16_50 rfl (by decide) (ol' C 55 d16_52 rfl (by decide) ?_))))
    refine oo' C 58 (Ls' := #[.val (.int 31), .val (.int 13)]) (4 : Int32) d16_55 rfl (by decide) rfl rfl (ob' C 59 d16_58 rfl rfl (oe' C 60 (4 : Int32) d16_59 rfl (by decide) (ok' C 61 (1 : Int32) d16_60 rfl (by decide) (oh' C 62 (Ls' := #[.val (.int 1), .val (.int 13)]) d16_61 rfl rfl ?_))))
    refine ob' C 63 d16_62 rfl rfl (oe' C 64 (4 : Int32) d16_63 rfl (by decide) (oj' C (pc' := 74) d16_64 (by decide) (by decide) (by decide) (ob' C 75 d16_74 rfl rfl (ob' C 76 d16_75 rfl rfl ?_))))
    refine oe' C 77 (1 : Int32) d16_76 rfl (by decide) (ok' C 78 (0 : Int32) d16_77 rfl (by decide) (oz' C 79 (13 : Int32) d16_78 rfl (by decide) (op' C d16_79 rfl (by decide) (by decide) ?_)))
    exact ⟨(13 : Int32), rfl, rfl, et⟩
  · skip
    refine od1' C 7 (16383 : Int32) d16_6 rfl ec1 (oh' C 8 (Ls' := #[.val (.int 16383), .unset]) d16_7 rfl rfl (ob' C 9 d16_8 rfl rfl (on' C (pc' := 17) d16_9 (by decide) (by decide) (by decide) (oe' C 18 (1 : Int32) d16_17 rfl (by decide) ?_))))
    refine oh' C 19 (Ls' := #[.val (.int 16383), .val (.int 1)]) d16_18 rfl rfl (ob' C 20 d16_19 rfl rfl (ov' C 23 (v := (65536 : Int32)) d16_20 rfl (hq hw 107 rfl) (oj' C (pc' := 34) d16_23 (by decide) (by decide) (by decide) (ob' C 35 d16_34 rfl rfl ?_))))
    refine ox' C 38 (256 : Int32) d16_35 rfl (by decide) (ol' C 41 d16_38 rfl (by decide) (oo' C 44 (Ls' := #[.val (.int 16383), .val (.int 9)]) (8 : Int32) d16_41 rfl (by decide) rfl rfl (ob' C 45 d16_44 rfl rfl (om' C 47 (8 : Int32) d16_45 rfl (by decide) ?_))))
    refine ok' C 48 (63 : Int32) d16_47 rfl (by decide) (oh' C 49 (Ls' := #[.val (.int 63), .val (.int 9)]) d16_48 rfl rfl (ob' C 50 d16_49 rfl rfl (om' C 52 (16 : Int32) d16_50 rfl (by decide) (ol' C 55 d16_52 rfl (by decide) ?_))))
    refine oo' C 58 (Ls' := #[.val (.int 63), .val (.int 13)]) (4 : Int32) d16_55 rfl (by decide) rfl rfl (ob' C 59 d16_58 rfl rfl (oe' C 60 (4 : Int32) d16_59 rfl (by decide) (ok' C 61 (3 : Int32) d16_60 rfl (by decide) (oh' C 62 (Ls' := #[.val (.int 3), .val (.int 13)]) d16_61 rfl rfl ?_))))
    refine ob' C 63 d16_62 rfl rfl (oe' C 64 (4 : Int32) d16_63 rfl (by decide) (oj' C (pc' := 74) d16_64 (by decide) (by decide) (by decide) (ob' C 75 d16_74 rfl rfl (ob' C 76 d16_75 rfl rfl ?_))))
    refine oe' C 77 (1 : Int32) d16_76 rfl (by decide) (ok' C 78 (1 : Int32) d16_77 rfl (by decide) (oz' C 79 (14 : Int32) d16_78 rfl (by decide) (op' C d16_79 rfl (by decide) (by decide) ?_)))
    exact ⟨(14 : Int32), rfl, rfl, et⟩
  · skip
    refine od1' C 7 (32767 : Int32) d16_6 rfl ec1 (oh' C 8 (Ls' := #[.val (.int 32767), .unset]) d16_7 rfl rfl (ob' C 9 d16_8 rfl rfl (on' C (pc' := 17) d16_9 (by decide) (by decide) (by decide) (oe' C 18 (1 : Int32) d16_17 rfl (by decide) ?_))))
    refine oh' C 19 (Ls' := #[.val (.int 32767), .val (.int 1)]) d16_18 rfl rfl (ob' C 20 d16_19 rfl rfl (ov' C 23 (v := (65536 : Int32)) d16_20 rfl (hq hw 107 rfl) (oj' C (pc' := 34) d16_23 (by decide) (by decide) (by decide) (ob' C 35 d16_34 rfl rfl ?_))))
    refine ox' C 38 (256 : Int32) d16_35 rfl (by decide) (ol' C 41 d16_38 rfl (by decide) (oo' C 44 (Ls' := #[.val (.int 32767), .val (.int 9)]) (8 : Int32) d16_41 rfl (by decide) rfl rfl (ob' C 45 d16_44 rfl rfl (om' C 47 (8 : Int32) d16_45 rfl (by decide) ?_))))
    refine ok' C 48 (127 : Int32) d16_47 rfl (by decide) (oh' C 49 (Ls' := #[.val (.int 127), .val (.int 9)]) d16_48 rfl rfl (ob' C 50 d16_49 rfl rfl (om' C 52 (16 : Int32) d16_50 rfl (by decide) (ol' C 55 d16_52 rfl (by decide) ?_))))
    refine oo' C 58 (Ls' := #[.val (.int 127), .val (.int 13)]) (4 : Int32) d16_55 rfl (by decide) rfl rfl (ob' C 59 d16_58 rfl rfl (oe' C 60 (4 : Int32) d16_59 rfl (by decide) (ok' C 61 (7 : Int32) d16_60 rfl (by decide) (oh' C 62 (Ls' := #[.val (.int 7), .val (.int 13)]) d16_61 rfl rfl ?_))))
    refine ob' C 63 d16_62 rfl rfl (oe' C 64 (4 : Int32) d16_63 rfl (by decide) (ol' C 67 d16_64 rfl (by decide) (oo' C 70 (Ls' := #[.val (.int 7), .val (.int 15)]) (2 : Int32) d16_67 rfl (by decide) rfl rfl (ob' C 71 d16_70 rfl rfl ?_))))
    refine oe' C 72 (2 : Int32) d16_71 rfl (by decide) (ok' C 73 (1 : Int32) d16_72 rfl (by decide) (oh' C 74 (Ls' := #[.val (.int 1), .val (.int 15)]) d16_73 rfl rfl (ob' C 75 d16_74 rfl rfl (ob' C 76 d16_75 rfl rfl ?_))))
    refine oe' C 77 (1 : Int32) d16_76 rfl (by decide) (ok' C 78 (0 : Int32) d16_77 rfl (by decide) (oz' C 79 (15 : Int32) d16_78 rfl (by decide) (op' C d16_79 rfl (by decide) (by decide) ?_)))
    exact ⟨(15 : Int32), rfl, rfl, et⟩
  · skip
    refine od1' C 7 (65535 : Int32) d16_6 rfl ec1 (oh' C 8 (Ls' := #[.val (.int 65535), .unset]) d16_7 rfl rfl (ob' C 9 d16_8 rfl rfl (on' C (pc' := 17) d16_9 (by decide) (by decide) (by decide) (oe' C 18 (1 : Int32) d16_17 rfl (by decide) ?_))))
    refine oh' C 19 (Ls' := #[.val (.int 65535), .val (.int 1)]) d16_18 rfl rfl (ob' C 20 d16_19 rfl rfl (ov' C 23 (v := (65536 : Int32)) d16_20 rfl (hq hw 107 rfl) (oj' C (pc' := 34) d16_23 (by decide) (by decide) (by decide) (ob' C 35 d16_34 rfl rfl ?_))))
    refine ox' C 38 (256 : Int32) d16_35 rfl (by decide) (ol' C 41 d16_38 rfl (by decide) (oo' C 44 (Ls' := #[.val (.int 65535), .val (.int 9)]) (8 : Int32) d16_41 rfl (by decide) rfl rfl (ob' C 45 d16_44 rfl rfl (om' C 47 (8 : Int32) d16_45 rfl (by decide) ?_))))
    refine ok' C 48 (255 : Int32) d16_47 rfl (by decide) (oh' C 49 (Ls' := #[.val (.int 255), .val (.int 9)]) d16_48 rfl rfl (ob' C 50 d16_49 rfl rfl (om' C 52 (16 : Int32) d16_50 rfl (by decide) (ol' C 55 d16_52 rfl (by decide) ?_))))
    refine oo' C 58 (Ls' := #[.val (.int 255), .val (.int 13)]) (4 : Int32) d16_55 rfl (by decide) rfl rfl (ob' C 59 d16_58 rfl rfl (oe' C 60 (4 : Int32) d16_59 rfl (by decide) (ok' C 61 (15 : Int32) d16_60 rfl (by decide) (oh' C 62 (Ls' := #[.val (.int 15), .val (.int 13)]) d16_61 rfl rfl ?_))))
    refine ob' C 63 d16_62 rfl rfl (oe' C 64 (4 : Int32) d16_63 rfl (by decide) (ol' C 67 d16_64 rfl (by decide) (oo' C 70 (Ls' := #[.val (.int 15), .val (.int 15)]) (2 : Int32) d16_67 rfl (by decide) rfl rfl (ob' C 71 d16_70 rfl rfl ?_))))
    refine oe' C 72 (2 : Int32) d16_71 rfl (by decide) (ok' C 73 (3 : Int32) d16_72 rfl (by decide) (oh' C 74 (Ls' := #[.val (.int 3), .val (.int 15)]) d16_73 rfl rfl (ob' C 75 d16_74 rfl rfl (ob' C 76 d16_75 rfl rfl ?_))))
    refine oe' C 77 (1 : Int32) d16_76 rfl (by decide) (ok' C 78 (1 : Int32) d16_77 rfl (by decide) (oz' C 79 (16 : Int32) d16_78 rfl (by decide) (op' C d16_79 rfl (by decide) (by decide) ?_)))
    exact ⟨(16 : Int32), rfl, rfl, et⟩
  · skip
    refine od1' C 7 (131071 : Int32) d16_6 rfl ec1 (oh' C 8 (Ls' := #[.val (.int 131071), .unset]) d16_7 rfl rfl (ob' C 9 d16_8 rfl rfl (on' C (pc' := 17) d16_9 (by decide) (by decide) (by decide) (oe' C 18 (1 : Int32) d16_17 rfl (by decide) ?_))))
    refine oh' C 19 (Ls' := #[.val (.int 131071), .val (.int 1)]) d16_18 rfl rfl (ob' C 20 d16_19 rfl rfl (ov' C 23 (v := (65536 : Int32)) d16_20 rfl (hq hw 107 rfl) (ol' C 26 d16_23 rfl (by decide) (oo' C 29 (Ls' := #[.val (.int 131071), .val (.int 17)]) (16 : Int32) d16_26 rfl (by decide) rfl rfl ?_))))
    refine ob' C 30 d16_29 rfl rfl (om' C 32 (16 : Int32) d16_30 rfl (by decide) (ok' C 33 (1 : Int32) d16_32 rfl (by decide) (oh' C 34 (Ls' := #[.val (.int 1), .val (.int 17)]) d16_33 rfl rfl (ob' C 35 d16_34 rfl rfl ?_))))
    refine ox' C 38 (256 : Int32) d16_35 rfl (by decide) (oj' C (pc' := 49) d16_38 (by decide) (by decide) (by decide) (ob' C 50 d16_49 rfl rfl (om' C 52 (16 : Int32) d16_50 rfl (by decide) (oj' C (pc' := 62) d16_52 (by decide) (by decide) (by decide) ?_))))
    refine ob' C 63 d16_62 rfl rfl (oe' C 64 (4 : Int32) d16_63 rfl (by decide) (oj' C (pc' := 74) d16_64 (by decide) (by decide) (by decide) (ob' C 75 d16_74 rfl rfl (ob' C 76 d16_75 rfl rfl ?_))))
    refine oe' C 77 (1 : Int32) d16_76 rfl (by decide) (ok' C 78 (0 : Int32) d16_77 rfl (by decide) (oz' C 79 (17 : Int32) d16_78 rfl (by decide) (op' C d16_79 rfl (by decide) (by decide) ?_)))
    exact ⟨(17 : Int32), rfl, rfl, et⟩
  · skip
    refine od1' C 7 (262143 : Int32) d16_6 rfl ec1 (oh' C 8 (Ls' := #[.val (.int 262143), .unset]) d16_7 rfl rfl (ob' C 9 d16_8 rfl rfl (on' C (pc' := 17) d16_9 (by decide) (by decide) (by decide) (oe' C 18 (1 : Int32) d16_17 rfl (by decide) ?_))))
    refine oh' C 19 (Ls' := #[.val (.int 262143), .val (.int 1)]) d16_18 rfl rfl (ob' C 20 d16_19 rfl rfl (ov' C 23 (v := (65536 : Int32)) d16_20 rfl (hq hw 107 rfl) (ol' C 26 d16_23 rfl (by decide) (oo' C 29 (Ls' := #[.val (.int 262143), .val (.int 17)]) (16 : Int32) d16_26 rfl (by decide) rfl rfl ?_))))
    refine ob' C 30 d16_29 rfl rfl (om' C 32 (16 : Int32) d16_30 rfl (by decide) (ok' C 33 (3 : Int32) d16_32 rfl (by decide) (oh' C 34 (Ls' := #[.val (.int 3), .val (.int 17)]) d16_33 rfl rfl (ob' C 35 d16_34 rfl rfl ?_))))
    refine ox' C 38 (256 : Int32) d16_35 rfl (by decide) (oj' C (pc' := 49) d16_38 (by decide) (by decide) (by decide) (ob' C 50 d16_49 rfl rfl (om' C 52 (16 : Int32) d16_50 rfl (by decide) (oj' C (pc' := 62) d16_52 (by decide) (by decide) (by decide) ?_))))
    refine ob' C 63 d16_62 rfl rfl (oe' C 64 (4 : Int32) d16_63 rfl (by decide) (oj' C (pc' := 74) d16_64 (by decide) (by decide) (by decide) (ob' C 75 d16_74 rfl rfl (ob' C 76 d16_75 rfl rfl ?_))))
    refine oe' C 77 (1 : Int32) d16_76 rfl (by decide) (ok' C 78 (1 : Int32) d16_77 rfl (by decide) (oz' C 79 (18 : Int32) d16_78 rfl (by decide) (op' C d16_79 rfl (by decide) (by decide) ?_)))
    exact ⟨(18 : Int32), rfl, rfl, et⟩
  · skip
    refine od1' C 7 (524287 : Int32) d16_6 rfl ec1 (oh' C 8 (Ls' := #[.val (.int 524287), .unset]) d16_7 rfl rfl (ob' C 9 d16_8 rfl rfl (on' C (pc' := 17) d16_9 (by decide) (by decide) (by decide) (oe' C 18 (1 : Int32) d16_17 rfl (by decide) ?_))))
    refine oh' C 19 (Ls' := #[.val (.int 524287), .val (.int 1)]) d16_18 rfl rfl (ob' C 20 d16_19 rfl rfl (ov' C 23 (v := (65536 : Int32)) d16_20 rfl (hq hw 107 rfl) (ol' C 26 d16_23 rfl (by decide) (oo' C 29 (Ls' := #[.val (.int 524287), .val (.int 17)]) (16 : Int32) d16_26 rfl (by decide) rfl rfl ?_))))
    refine ob' C 30 d16_29 rfl rfl (om' C 32 (16 : Int32) d16_30 rfl (by decide) (ok' C 33 (7 : Int32) d16_32 rfl (by decide) (oh' C 34 (Ls' := #[.val (.int 7), .val (.int 17)]) d16_33 rfl rfl (ob' C 35 d16_34 rfl rfl ?_))))
    refine ox' C 38 (256 : Int32) d16_35 rfl (by decide) (oj' C (pc' := 49) d16_38 (by decide) (by decide) (by decide) (ob' C 50 d16_49 rfl rfl (om' C 52 (16 : Int32) d16_50 rfl (by decide) (oj' C (pc' := 62) d16_52 (by decide) (by decide) (by decide) ?_))))
    refine ob' C 63 d16_62 rfl rfl (oe' C 64 (4 : Int32) d16_63 rfl (by decide) (ol' C 67 d16_64 rfl (by decide) (oo' C 70 (Ls' := #[.val (.int 7), .val (.int 19)]) (2 : Int32) d16_67 rfl (by decide) rfl rfl (ob' C 71 d16_70 rfl rfl ?_))))
    refine oe' C 72 (2 : Int32) d16_71 rfl (by decide) (ok' C 73 (1 : Int32) d16_72 rfl (by decide) (oh' C 74 (Ls' := #[.val (.int 1), .val (.int 19)]) d16_73 rfl rfl (ob' C 75 d16_74 rfl rfl (ob' C 76 d16_75 rfl rfl ?_))))
    refine oe' C 77 (1 : Int32) d16_76 rfl (by decide) (ok' C 78 (0 : Int32) d16_77 rfl (by decide) (oz' C 79 (19 : Int32) d16_78 rfl (by decide) (op' C d16_79 rfl (by decide) (by decide) ?_)))
    exact ⟨(19 : Int32), rfl, rfl, et⟩
  · skip
    refine od1' C 7 (1048575 : Int32) d16_6 rfl ec1 (oh' C 8 (Ls' := #[.val (.int 1048575), .unset]) d16_7 rfl rfl (ob' C 9 d16_8 rfl rfl (on' C (pc' := 17) d16_9 (by decide) (by decide) (by decide) (oe' C 18 (1 : Int32) d16_17 rfl (by decide) ?_))))
    refine oh' C 19 (Ls' := #[.val (.int 1048575), .val (.int 1)]) d16_18 rfl rfl (ob' C 20 d16_19 rfl rfl (ov' C 23 (v := (65536 : Int32)) d16_20 rfl (hq hw 107 rfl) (ol' C 26 d16_23 rfl (by decide) (oo' C 29 (Ls' := #[.val (.int 1048575), .val (.int 17)]) (16 : Int32) d16_26 rfl (by decide) rfl rfl ?_))))
    refine ob' C 30 d16_29 rfl rfl (om' C 32 (16 : Int32) d16_30 rfl (by decide) (ok' C 33 (15 : Int32) d16_32 rfl (by decide) (oh' C 34 (Ls' := #[.val (.int 15), .val (.int 17)]) d16_33 rfl rfl (ob' C 35 d16_34 rfl rfl ?_))))
    refine ox' C 38 (256 : Int32) d16_35 rfl (by decide) (oj' C (pc' := 49) d16_38 (by decide) (by decide) (by decide) (ob' C 50 d16_49 rfl rfl (om' C 52 (16 : Int32) d16_50 rfl (by decide) (oj' C (pc' := 62) d16_52 (by decide) (by decide) (by decide) ?_))))
    refine ob' C 63 d16_62 rfl rfl (oe' C 64 (4 : Int32) d16_63 rfl (by decide) (ol' C 67 d16_64 rfl (by decide) (oo' C 70 (Ls' := #[.val (.int 15), .val (.int 19)]) (2 : Int32) d16_67 rfl (by decide) rfl rfl (ob' C 71 d16_70 rfl rfl ?_))))
    refine oe' C 72 (2 : Int32) d16_71 rfl (by decide) (ok' C 73 (3 : Int32) d16_72 rfl (by decide) (oh' C 74 (Ls' := #[.val (.int 3), .val (.int 19)]) d16_73 rfl rfl (ob' C 75 d16_74 rfl rfl (ob' C 76 d16_75 rfl rfl ?_))))
    refine oe' C 77 (1 : Int32) d16_76 rfl (by decide) (ok' C 78 (1 : Int32) d16_77 rfl (by decide) (oz' C 79 (20 : Int32) d16_78 rfl (by decide) (op' C d16_79 rfl (by decide) (by decide) ?_)))
    exact ⟨(20 : Int32), rfl, rfl, et⟩
  · skip
    refine od1' C 7 (2097151 : Int32) d16_6 rfl ec1 (oh' C 8 (Ls' := #[.val (.int 2097151), .unset]) d16_7 rfl rfl (ob' C 9 d16_8 rfl rfl (on' C (pc' := 17) d16_9 (by decide) (by decide) (by decide) (oe' C 18 (1 : Int32) d16_17 rfl (by decide) ?_))))
    refine oh' C 19 (Ls' := #[.val (.int 2097151), .val (.int 1)]) d16_18 rfl rfl (ob' C 20 d16_19 rfl rfl (ov' C 23 (v := (65536 : Int32)) d16_20 rfl (hq hw 107 rfl) (ol' C 26 d16_23 rfl (by decide) (oo' C 29 (Ls' := #[.val (.int 2097151), .val (.int 17)]) (16 : Int32) d16_26 rfl (by decide) rfl rfl ?_))))
    refine ob' C 30 d16_29 rfl rfl (om' C 32 (16 : Int32) d16_30 rfl (by decide) (ok' C 33 (31 : Int32) d16_32 rfl (by decide) (oh' C 34 (Ls' := #[.val (.int 31), .val (.int 17)]) d16_33 rfl rfl (ob' C 35 d16_34 rfl rfl ?_))))
    refine ox' C 38 (256 : Int32) d16_35 rfl (by decide) (oj' C (pc' := 49) d16_38 (by decide) (by decide) (by decide) (ob' C 50 d16_49 rfl rfl (om' C 52 (16 : Int32) d16_50 rfl (by decide) (ol' C 55 d16_52 rfl (by decide) ?_))))
    refine oo' C 58 (Ls' := #[.val (.int 31), .val (.int 21)]) (4 : Int32) d16_55 rfl (by decide) rfl rfl (ob' C 59 d16_58 rfl rfl (oe' C 60 (4 : Int32) d16_59 rfl (by decide) (ok' C 61 (1 : Int32) d16_60 rfl (by decide) (oh' C 62 (Ls' := #[.val (.int 1), .val (.int 21)]) d16_61 rfl rfl ?_))))
    refine ob' C 63 d16_62 rfl rfl (oe' C 64 (4 : Int32) d16_63 rfl (by decide) (oj' C (pc' := 74) d16_64 (by decide) (by decide) (by decide) (ob' C 75 d16_74 rfl rfl (ob' C 76 d16_75 rfl rfl ?_))))
    refine oe' C 77 (1 : Int32) d16_76 rfl (by decide) (ok' C 78 (0 : Int32) d16_77 rfl (by decide) (oz' C 79 (21 : Int32) d16_78 rfl (by decide) (op' C d16_79 rfl (by decide) (by decide) ?_)))
    exact ⟨(21 : Int32), rfl, rfl, et⟩
  · skip
    refine od1' C 7 (4194303 : Int32) d16_6 rfl ec1 (oh' C 8 (Ls' := #[.val (.int 4194303), .unset]) d16_7 rfl rfl (ob' C 9 d16_8 rfl rfl (on' C (pc' := 17) d16_9 (by decide) (by decide) (by decide) (oe' C 18 (1 : Int32) d16_17 rfl (by decide) ?_))))
    refine oh' C 19 (Ls' := #[.val (.int 4194303), .val (.int 1)]) d16_18 rfl rfl (ob' C 20 d16_19 rfl rfl (ov' C 23 (v := (65536 : Int32)) d16_20 rfl (hq hw 107 rfl) (ol' C 26 d16_23 rfl (by decide) (oo' C 29 (Ls' := #[.val (.int 4194303), .val (.int 17)]) (16 : Int32) d16_26 rfl (by decide) rfl rfl ?_))))
    refine ob' C 30 d16_29 rfl rfl (om' C 32 (16 : Int32) d16_30 rfl (by decide) (ok' C 33 (63 : Int32) d16_32 rfl (by decide) (oh' C 34 (Ls' := #[.val (.int 63), .val (.int 17)]) d16_33 rfl rfl (ob' C 35 d16_34 rfl rfl ?_))))
    refine ox' C 38 (256 : Int32) d16_35 rfl (by decide) (oj' C (pc' := 49) d16_38 (by decide) (by decide) (by decide) (ob' C 50 d16_49 rfl rfl (om' C 52 (16 : Int32) d16_50 rfl (by decide) (ol' C 55 d16_52 rfl (by decide) ?_))))
    refine oo' C 58 (Ls' := #[.val (.int 63), .val (.int 21)]) (4 : Int32) d16_55 rfl (by decide) rfl rfl (ob' C 59 d16_58 rfl rfl (oe' C 60 (4 : Int32) d16_59 rfl (by decide) (ok' C 61 (3 : Int32) d16_60 rfl (by decide) (oh' C 62 (Ls' := #[.val (.int 3), .val (.int 21)]) d16_61 rfl rfl ?_))))
    refine ob' C 63 d16_62 rfl rfl (oe' C 64 (4 : Int32) d16_63 rfl (by decide) (oj' C (pc' := 74) d16_64 (by decide) (by decide) (by decide) (ob' C 75 d16_74 rfl rfl (ob' C 76 d16_75 rfl rfl ?_))))
    refine oe' C 77 (1 : Int32) d16_76 rfl (by decide) (ok' C 78 (1 : Int32) d16_77 rfl (by decide) (oz' C 79 (22 : Int32) d16_78 rfl (by decide) (op' C d16_79 rfl (by decide) (by decide) ?_)))
    exact ⟨(22 : Int32), rfl, rfl, et⟩
  · skip
    refine od1' C 7 (8388607 : Int32) d16_6 rfl ec1 (oh' C 8 (Ls' := #[.val (.int 8388607), .unset]) d16_7 rfl rfl (ob' C 9 d16_8 rfl rfl (on' C (pc' := 17) d16_9 (by decide) (by decide) (by decide) (oe' C 18 (1 : Int32) d16_17 rfl (by decide) ?_))))
    refine oh' C 19 (Ls' := #[.val (.int 8388607), .val (.int 1)]) d16_18 rfl rfl (ob' C 20 d16_19 rfl rfl (ov' C 23 (v := (65536 : Int32)) d16_20 rfl (hq hw 107 rfl) (ol' C 26 d16_23 rfl (by decide) (oo' C 29 (Ls' := #[.val (.int 8388607), .val (.int 17)]) (16 : Int32) d16_26 rfl (by decide) rfl rfl ?_))))
    refine ob' C 30 d16_29 rfl rfl (om' C 32 (16 : Int32) d16_30 rfl (by decide) (ok' C 33 (127 : Int32) d16_32 rfl (by decide) (oh' C 34 (Ls' := #[.val (.int 127), .val (.int 17)]) d16_33 rfl rfl (ob' C 35 d16_34 rfl rfl ?_))))
    refine ox' C 38 (256 : Int32) d16_35 rfl (by decide) (oj' C (pc' := 49) d16_38 (by decide) (by decide) (by decide) (ob' C 50 d16_49 rfl rfl (om' C 52 (16 : Int32) d16_50 rfl (by decide) (ol' C 55 d16_52 rfl (by decide) ?_))))
    refine oo' C 58 (Ls' := #[.val (.int 127), .val (.int 21)]) (4 : Int32) d16_55 rfl (by decide) rfl rfl (ob' C 59 d16_58 rfl rfl (oe' C 60 (4 : Int32) d16_59 rfl (by decide) (ok' C 61 (7 : Int32) d16_60 rfl (by decide) (oh' C 62 (Ls' := #[.val (.int 7), .val (.int 21)]) d16_61 rfl rfl ?_))))
    refine ob' C 63 d16_62 rfl rfl (oe' C 64 (4 : Int32) d16_63 rfl (by decide) (ol' C 67 d16_64 rfl (by decide) (oo' C 70 (Ls' := #[.val (.int 7), .val (.int 23)]) (2 : Int32) d16_67 rfl (by decide) rfl rfl (ob' C 71 d16_70 rfl rfl ?_))))
    refine oe' C 72 (2 : Int32) d16_71 rfl (by decide) (ok' C 73 (1 : Int32) d16_72 rfl (by decide) (oh' C 74 (Ls' := #[.val (.int 1), .val (.int 23)]) d16_73 rfl rfl (ob' C 75 d16_74 rfl rfl (ob' C 76 d16_75 rfl rfl ?_))))
    refine oe' C 77 (1 : Int32) d16_76 rfl (by decide) (ok' C 78 (0 : Int32) d16_77 rfl (by decide) (oz' C 79 (23 : Int32) d16_78 rfl (by decide) (op' C d16_79 rfl (by decide) (by decide) ?_)))
    exact ⟨(23 : Int32), rfl, rfl, et⟩
  · skip
    refine od1' C 7 (16777215 : Int32) d16_6 rfl ec1 (oh' C 8 (Ls' := #[.val (.int 16777215), .unset]) d16_7 rfl rfl (ob' C 9 d16_8 rfl rfl (on' C (pc' := 17) d16_9 (by decide) (by decide) (by decide) (oe' C 18 (1 : Int32) d16_17 rfl (by decide) ?_))))
    refine oh' C 19 (Ls' := #[.val (.int 16777215), .val (.int 1)]) d16_18 rfl rfl (ob' C 20 d16_19 rfl rfl (ov' C 23 (v := (65536 : Int32)) d16_20 rfl (hq hw 107 rfl) (ol' C 26 d16_23 rfl (by decide) (oo' C 29 (Ls' := #[.val (.int 16777215), .val (.int 17)]) (16 : Int32) d16_26 rfl (by decide) rfl rfl ?_))))
    refine ob' C 30 d16_29 rfl rfl (om' C 32 (16 : Int32) d16_30 rfl (by decide) (ok' C 33 (255 : Int32) d16_32 rfl (by decide) (oh' C 34 (Ls' := #[.val (.int 255), .val (.int 17)]) d16_33 rfl rfl (ob' C 35 d16_34 rfl rfl ?_))))
    refine ox' C 38 (256 : Int32) d16_35 rfl (by decide) (oj' C (pc' := 49) d16_38 (by decide) (by decide) (by decide) (ob' C 50 d16_49 rfl rfl (om' C 52 (16 : Int32) d16_50 rfl (by decide) (ol' C 55 d16_52 rfl (by decide) ?_))))
    refine oo' C 58 (Ls' := #[.val (.int 255), .val (.int 21)]) (4 : Int32) d16_55 rfl (by decide) rfl rfl (ob' C 59 d16_58 rfl rfl (oe' C 60 (4 : Int32) d16_59 rfl (by decide) (ok' C 61 (15 : Int32) d16_60 rfl (by decide) (oh' C 62 (Ls' := #[.val (.int 15), .val (.int 21)]) d16_61 rfl rfl ?_))))
    refine ob' C 63 d16_62 rfl rfl (oe' C 64 (4 : Int32) d16_63 rfl (by decide) (ol' C 67 d16_64 rfl (by decide) (oo' C 70 (Ls' := #[.val (.int 15), .val (.int 23)]) (2 : Int32) d16_67 rfl (by decide) rfl rfl (ob' C 71 d16_70 rfl rfl ?_))))
    refine oe' C 72 (2 : Int32) d16_71 rfl (by decide) (ok' C 73 (3 : Int32) d16_72 rfl (by decide) (oh' C 74 (Ls' := #[.val (.int 3), .val (.int 23)]) d16_73 rfl rfl (ob' C 75 d16_74 rfl rfl (ob' C 76 d16_75 rfl rfl ?_))))
    refine oe' C 77 (1 : Int32) d16_76 rfl (by decide) (ok' C 78 (1 : Int32) d16_77 rfl (by decide) (oz' C 79 (24 : Int32) d16_78 rfl (by decide) (op' C d16_79 rfl (by decide) (by decide) ?_)))
    exact ⟨(24 : Int32), rfl, rfl, et⟩
  · skip
    refine od1' C 7 (33554431 : Int32) d16_6 rfl ec1 (oh' C 8 (Ls' := #[.val (.int 33554431), .unset]) d16_7 rfl rfl (ob' C 9 d16_8 rfl rfl (on' C (pc' := 17) d16_9 (by decide) (by decide) (by decide) (oe' C 18 (1 : Int32) d16_17 rfl (by decide) ?_))))
    refine oh' C 19 (Ls' := #[.val (.int 33554431), .val (.int 1)]) d16_18 rfl rfl (ob' C 20 d16_19 rfl rfl (ov' C 23 (v := (65536 : Int32)) d16_20 rfl (hq hw 107 rfl) (ol' C 26 d16_23 rfl (by decide) (oo' C 29 (Ls' := #[.val (.int 33554431), .val (.int 17)]) (16 : Int32) d16_26 rfl (by decide) rfl rfl ?_))))
    refine ob' C 30 d16_29 rfl rfl (om' C 32 (16 : Int32) d16_30 rfl (by decide) (ok' C 33 (511 : Int32) d16_32 rfl (by decide) (oh' C 34 (Ls' := #[.val (.int 511), .val (.int 17)]) d16_33 rfl rfl (ob' C 35 d16_34 rfl rfl ?_))))
    refine ox' C 38 (256 : Int32) d16_35 rfl (by decide) (ol' C 41 d16_38 rfl (by decide) (oo' C 44 (Ls' := #[.val (.int 511), .val (.int 25)]) (8 : Int32) d16_41 rfl (by decide) rfl rfl (ob' C 45 d16_44 rfl rfl (om' C 47 (8 : Int32) d16_45 rfl (by decide) ?_))))
    refine ok' C 48 (1 : Int32) d16_47 rfl (by decide) (oh' C 49 (Ls' := #[.val (.int 1), .val (.int 25)]) d16_48 rfl rfl (ob' C 50 d16_49 rfl rfl (om' C 52 (16 : Int32) d16_50 rfl (by decide) (oj' C (pc' := 62) d16_52 (by decide) (by decide) (by decide) ?_))))
    refine ob' C 63 d16_62 rfl rfl (oe' C 64 (4 : Int32) d16_63 rfl (by decide) (oj' C (pc' := 74) d16_64 (by decide) (by decide) (by decide) (ob' C 75 d16_74 rfl rfl (ob' C 76 d16_75 rfl rfl ?_))))
    refine oe' C 77 (1 : Int32) d16_76 rfl (by decide) (ok' C 78 (0 : Int32) d16_77 rfl (by decide) (oz' C 79 (25 : Int32) d16_78 rfl (by decide) (op' C d16_79 rfl (by decide) (by decide) ?_)))
    exact ⟨(25 : Int32), rfl, rfl, et⟩
  · skip
    refine od1' C 7 (67108863 : Int32) d16_6 rfl ec1 (oh' C 8 (Ls' := #[.val (.int 67108863), .unset]) d16_7 rfl rfl (ob' C 9 d16_8 rfl rfl (on' C (pc' := 17) d16_9 (by decide) (by decide) (by decide) (oe' C 18 (1 : Int32) d16_17 rfl (by decide) ?_))))
    refine oh' C 19 (Ls' := #[.val (.int 67108863), .val (.int 1)]) d16_18 rfl rfl (ob' C 20 d16_19 rfl rfl (ov' C 23 (v := (65536 : Int32)) d16_20 rfl (hq hw 107 rfl) (ol' C 26 d16_23 rfl (by decide) (oo' C 29 (Ls' := #[.val (.int 67108863), .val (.int 17)]) (16 : Int32) d16_26 rfl (by decide) rfl rfl ?_))))
    refine ob' C 30 d16_29 rfl rfl (om' C 32 (16 : Int32) d16_30 rfl (by decide) (ok' C 33 (1023 : Int32) d16_32 rfl (by decide) (oh' C 34 (Ls' := #[.val (.int 1023), .val (.int 17)]) d16_33 rfl rfl (ob' C 35 d16_34 rfl rfl ?_))))
    refine ox' C 38 (256 : Int32) d16_35 rfl (by decide) (ol' C 41 d16_38 rfl (by decide) (oo' C 44 (Ls' := #[.val (.int 1023), .val (.int 25)]) (8 : Int32) d16_41 rfl (by decide) rfl rfl (ob' C 45 d16_44 rfl rfl (om' C 47 (8 : Int32) d16_45 rfl (by decide) ?_))))
    refine ok' C 48 (3 : Int32) d16_47 rfl (by decide) (oh' C 49 (Ls' := #[.val (.int 3), .val (.int 25)]) d16_48 rfl rfl (ob' C 50 d16_49 rfl rfl (om' C 52 (16 : Int32) d16_50 rfl (by decide) (oj' C (pc' := 62) d16_52 (by decide) (by decide) (by decide) ?_))))
    refine ob' C 63 d16_62 rfl rfl (oe' C 64 (4 : Int32) d16_63 rfl (by decide) (oj' C (pc' := 74) d16_64 (by decide) (by decide) (by decide) (ob' C 75 d16_74 rfl rfl (ob' C 76 d16_75 rfl rfl ?_))))
    refine oe' C 77 (1 : Int32) d16_76 rfl (by decide) (ok' C 78 (1 : Int32) d16_77 rfl (by decide) (oz' C 79 (26 : Int32) d16_78 rfl (by decide) (op' C d16_79 rfl (by decide) (by decide) ?_)))
    exact ⟨(26 : Int32), rfl, rfl, et⟩
  · skip
    refine od1' C 7 (134217727 : Int32) d16_6 rfl ec1 (oh' C 8 (Ls' := #[.val (.int 134217727), .unset]) d16_7 rfl rfl (ob' C 9 d16_8 rfl rfl (on' C (pc' := 17) d16_9 (by decide) (by decide) (by decide) (oe' C 18 (1 : Int32) d16_17 rfl (by decide) ?_))))
    refine oh' C 19 (Ls' := #[.val (.int 134217727), .val (.int 1)]) d16_18 rfl rfl (ob' C 20 d16_19 rfl rfl (ov' C 23 (v := (65536 : Int32)) d16_20 rfl (hq hw 107 rfl) (ol' C 26 d16_23 rfl (by decide) (oo' C 29 (Ls' := #[.val (.int 134217727), .val (.int 17)]) (16 : Int32) d16_26 rfl (by decide) rfl rfl ?_))))
    refine ob' C 30 d16_29 rfl rfl (om' C 32 (16 : Int32) d16_30 rfl (by decide) (ok' C 33 (2047 : Int32) d16_32 rfl (by decide) (oh' C 34 (Ls' := #[.val (.int 2047), .val (.int 17)]) d16_33 rfl rfl (ob' C 35 d16_34 rfl rfl ?_))))
    refine ox' C 38 (256 : Int32) d16_35 rfl (by decide) (ol' C 41 d16_38 rfl (by decide) (oo' C 44 (Ls' := #[.val (.int 2047), .val (.int 25)]) (8 : Int32) d16_41 rfl (by decide) rfl rfl (ob' C 45 d16_44 rfl rfl (om' C 47 (8 : Int32) d16_45 rfl (by decide) ?_))))
    refine ok' C 48 (7 : Int32) d16_47 rfl (by decide) (oh' C 49 (Ls' := #[.val (.int 7), .val (.int 25)]) d16_48 rfl rfl (ob' C 50 d16_49 rfl rfl (om' C 52 (16 : Int32) d16_50 rfl (by decide) (oj' C (pc' := 62) d16_52 (by decide) (by decide) (by decide) ?_))))
    refine ob' C 63 d16_62 rfl rfl (oe' C 64 (4 : Int32) d16_63 rfl (by decide) (ol' C 67 d16_64 rfl (by decide) (oo' C 70 (Ls' := #[.val (.int 7), .val (.int 27)]) (2 : Int32) d16_67 rfl (by decide) rfl rfl (ob' C 71 d16_70 rfl rfl ?_))))
    refine oe' C 72 (2 : Int32) d16_71 rfl (by decide) (ok' C 73 (1 : Int32) d16_72 rfl (by decide) (oh' C 74 (Ls' := #[.val (.int 1), .val (.int 27)]) d16_73 rfl rfl (ob' C 75 d16_74 rfl rfl (ob' C 76 d16_75 rfl rfl ?_))))
    refine oe' C 77 (1 : Int32) d16_76 rfl (by decide) (ok' C 78 (0 : Int32) d16_77 rfl (by decide) (oz' C 79 (27 : Int32) d16_78 rfl (by decide) (op' C d16_79 rfl (by decide) (by decide) ?_)))
    exact ⟨(27 : Int32), rfl, rfl, et⟩
  · skip
    refine od1' C 7 (268435455 : Int32) d16_6 rfl ec1 (oh' C 8 (Ls' := #[.val (.int 268435455), .unset]) d16_7 rfl rfl (ob' C 9 d16_8 rfl rfl (on' C (pc' := 17) d16_9 (by decide) (by decide) (by decide) (oe' C 18 (1 : Int32) d16_17 rfl (by decide) ?_))))
    refine oh' C 19 (Ls' := #[.val (.int 268435455), .val (.int 1)]) d16_18 rfl rfl (ob' C 20 d16_19 rfl rfl (ov' C 23 (v := (65536 : Int32)) d16_20 rfl (hq hw 107 rfl) (ol' C 26 d16_23 rfl (by decide) (oo' C 29 (Ls' := #[.val (.int 268435455), .val (.int 17)]) (16 : Int32) d16_26 rfl (by decide) rfl rfl ?_))))
    refine ob' C 30 d16_29 rfl rfl (om' C 32 (16 : Int32) d16_30 rfl (by decide) (ok' C 33 (4095 : Int32) d16_32 rfl (by decide) (oh' C 34 (Ls' := #[.val (.int 4095), .val (.int 17)]) d16_33 rfl rfl (ob' C 35 d16_34 rfl rfl ?_))))
    refine ox' C 38 (256 : Int32) d16_35 rfl (by decide) (ol' C 41 d16_38 rfl (by decide) (oo' C 44 (Ls' := #[.val (.int 4095), .val (.int 25)]) (8 : Int32) d16_41 rfl (by decide) rfl rfl (ob' C 45 d16_44 rfl rfl (om' C 47 (8 : Int32) d16_45 rfl (by decide) ?_))))
    refine ok' C 48 (15 : Int32) d16_47 rfl (by decide) (oh' C 49 (Ls' := #[.val (.int 15), .val (.int 25)]) d16_48 rfl rfl (ob' C 50 d16_49 rfl rfl (om' C 52 (16 : Int32) d16_50 rfl (by decide) (oj' C (pc' := 62) d16_52 (by decide) (by decide) (by decide) ?_))))
    refine ob' C 63 d16_62 rfl rfl (oe' C 64 (4 : Int32) d16_63 rfl (by decide) (ol' C 67 d16_64 rfl (by decide) (oo' C 70 (Ls' := #[.val (.int 15), .val (.int 27)]) (2 : Int32) d16_67 rfl (by decide) rfl rfl (ob' C 71 d16_70 rfl rfl ?_))))
    refine oe' C 72 (2 : Int32) d16_71 rfl (by decide) (ok' C 73 (3 : Int32) d16_72 rfl (by decide) (oh' C 74 (Ls' := #[.val (.int 3), .val (.int 27)]) d16_73 rfl rfl (ob' C 75 d16_74 rfl rfl (ob' C 76 d16_75 rfl rfl ?_))))
    refine oe' C 77 (1 : Int32) d16_76 rfl (by decide) (ok' C 78 (1 : Int32) d16_77 rfl (by decide) (oz' C 79 (28 : Int32) d16_78 rfl (by decide) (op' C d16_79 rfl (by decide) (by decide) ?_)))
    exact ⟨(28 : Int32), rfl, rfl, et⟩
  · skip
    refine od1' C 7 (536870911 : Int32) d16_6 rfl ec1 (oh' C 8 (Ls' := #[.val (.int 536870911), .unset]) d16_7 rfl rfl (ob' C 9 d16_8 rfl rfl (on' C (pc' := 17) d16_9 (by decide) (by decide) (by decide) (oe' C 18 (1 : Int32) d16_17 rfl (by decide) ?_))))
    refine oh' C 19 (Ls' := #[.val (.int 536870911), .val (.int 1)]) d16_18 rfl rfl (ob' C 20 d16_19 rfl rfl (ov' C 23 (v := (65536 : Int32)) d16_20 rfl (hq hw 107 rfl) (ol' C 26 d16_23 rfl (by decide) (oo' C 29 (Ls' := #[.val (.int 536870911), .val (.int 17)]) (16 : Int32) d16_26 rfl (by decide) rfl rfl ?_))))
    refine ob' C 30 d16_29 rfl rfl (om' C 32 (16 : Int32) d16_30 rfl (by decide) (ok' C 33 (8191 : Int32) d16_32 rfl (by decide) (oh' C 34 (Ls' := #[.val (.int 8191), .val (.int 17)]) d16_33 rfl rfl (ob' C 35 d16_34 rfl rfl ?_))))
    refine ox' C 38 (256 : Int32) d16_35 rfl (by decide) (ol' C 41 d16_38 rfl (by decide) (oo' C 44 (Ls' := #[.val (.int 8191), .val (.int 25)]) (8 : Int32) d16_41 rfl (by decide) rfl rfl (ob' C 45 d16_44 rfl rfl (om' C 47 (8 : Int32) d16_45 rfl (by decide) ?_))))
    refine ok' C 48 (31 : Int32) d16_47 rfl (by decide) (oh' C 49 (Ls' := #[.val (.int 31), .val (.int 25)]) d16_48 rfl rfl (ob' C 50 d16_49 rfl rfl (om' C 52 (16 : Int32) d16_50 rfl (by decide) (ol' C 55 d16_52 rfl (by decide) ?_))))
    refine oo' C 58 (Ls' := #[.val (.int 31), .val (.int 29)]) (4 : Int32) d16_55 rfl (by decide) rfl rfl (ob' C 59 d16_58 rfl rfl (oe' C 60 (4 : Int32) d16_59 rfl (by decide) (ok' C 61 (1 : Int32) d16_60 rfl (by decide) (oh' C 62 (Ls' := #[.val (.int 1), .val (.int 29)]) d16_61 rfl rfl ?_))))
    refine ob' C 63 d16_62 rfl rfl (oe' C 64 (4 : Int32) d16_63 rfl (by decide) (oj' C (pc' := 74) d16_64 (by decide) (by decide) (by decide) (ob' C 75 d16_74 rfl rfl (ob' C 76 d16_75 rfl rfl ?_))))
    refine oe' C 77 (1 : Int32) d16_76 rfl (by decide) (ok' C 78 (0 : Int32) d16_77 rfl (by decide) (oz' C 79 (29 : Int32) d16_78 rfl (by decide) (op' C d16_79 rfl (by decide) (by decide) ?_)))
    exact ⟨(29 : Int32), rfl, rfl, et⟩
  · skip
    refine od1' C 7 (1073741823 : Int32) d16_6 rfl ec1 (oh' C 8 (Ls' := #[.val (.int 1073741823), .unset]) d16_7 rfl rfl (ob' C 9 d16_8 rfl rfl (on' C (pc' := 17) d16_9 (by decide) (by decide) (by decide) (oe' C 18 (1 : Int32) d16_17 rfl (by decide) ?_))))
    refine oh' C 19 (Ls' := #[.val (.int 1073741823), .val (.int 1)]) d16_18 rfl rfl (ob' C 20 d16_19 rfl rfl (ov' C 23 (v := (65536 : Int32)) d16_20 rfl (hq hw 107 rfl) (ol' C 26 d16_23 rfl (by decide) (oo' C 29 (Ls' := #[.val (.int 1073741823), .val (.int 17)]) (16 : Int32) d16_26 rfl (by decide) rfl rfl ?_))))
    refine ob' C 30 d16_29 rfl rfl (om' C 32 (16 : Int32) d16_30 rfl (by decide) (ok' C 33 (16383 : Int32) d16_32 rfl (by decide) (oh' C 34 (Ls' := #[.val (.int 16383), .val (.int 17)]) d16_33 rfl rfl (ob' C 35 d16_34 rfl rfl ?_))))
    refine ox' C 38 (256 : Int32) d16_35 rfl (by decide) (ol' C 41 d16_38 rfl (by decide) (oo' C 44 (Ls' := #[.val (.int 16383), .val (.int 25)]) (8 : Int32) d16_41 rfl (by decide) rfl rfl (ob' C 45 d16_44 rfl rfl (om' C 47 (8 : Int32) d16_45 rfl (by decide) ?_))))
    refine ok' C 48 (63 : Int32) d16_47 rfl (by decide) (oh' C 49 (Ls' := #[.val (.int 63), .val (.int 25)]) d16_48 rfl rfl (ob' C 50 d16_49 rfl rfl (om' C 52 (16 : Int32) d16_50 rfl (by decide) (ol' C 55 d16_52 rfl (by decide) ?_))))
    refine oo' C 58 (Ls' := #[.val (.int 63), .val (.int 29)]) (4 : Int32) d16_55 rfl (by decide) rfl rfl (ob' C 59 d16_58 rfl rfl (oe' C 60 (4 : Int32) d16_59 rfl (by decide) (ok' C 61 (3 : Int32) d16_60 rfl (by decide) (oh' C 62 (Ls' := #[.val (.int 3), .val (.int 29)]) d16_61 rfl rfl ?_))))
    refine ob' C 63 d16_62 rfl rfl (oe' C 64 (4 : Int32) d16_63 rfl (by decide) (oj' C (pc' := 74) d16_64 (by decide) (by decide) (by decide) (ob' C 75 d16_74 rfl rfl (ob' C 76 d16_75 rfl rfl ?_))))
    refine oe' C 77 (1 : Int32) d16_76 rfl (by decide) (ok' C 78 (1 : Int32) d16_77 rfl (by decide) (oz' C 79 (30 : Int32) d16_78 rfl (by decide) (op' C d16_79 rfl (by decide) (by decide) ?_)))
    exact ⟨(30 : Int32), rfl, rfl, et⟩
  · skip
    refine od1' C 7 (2147483647 : Int32) d16_6 rfl ec1 (oh' C 8 (Ls' := #[.val (.int 2147483647), .unset]) d16_7 rfl rfl (ob' C 9 d16_8 rfl rfl (on' C (pc' := 17) d16_9 (by decide) (by decide) (by decide) (oe' C 18 (1 : Int32) d16_17 rfl (by decide) ?_))))
    refine oh' C 19 (Ls' := #[.val (.int 2147483647), .val (.int 1)]) d16_18 rfl rfl (ob' C 20 d16_19 rfl rfl (ov' C 23 (v := (65536 : Int32)) d16_20 rfl (hq hw 107 rfl) (ol' C 26 d16_23 rfl (by decide) (oo' C 29 (Ls' := #[.val (.int 2147483647), .val (.int 17)]) (16 : Int32) d16_26 rfl (by decide) rfl rfl ?_))))
    refine ob' C 30 d16_29 rfl rfl (om' C 32 (16 : Int32) d16_30 rfl (by decide) (ok' C 33 (32767 : Int32) d16_32 rfl (by decide) (oh' C 34 (Ls' := #[.val (.int 32767), .val (.int 17)]) d16_33 rfl rfl (ob' C 35 d16_34 rfl rfl ?_))))
    refine ox' C 38 (256 : Int32) d16_35 rfl (by decide) (ol' C 41 d16_38 rfl (by decide) (oo' C 44 (Ls' := #[.val (.int 32767), .val (.int 25)]) (8 : Int32) d16_41 rfl (by decide) rfl rfl (ob' C 45 d16_44 rfl rfl (om' C 47 (8 : Int32) d16_45 rfl (by decide) ?_))))
    refine ok' C 48 (127 : Int32) d16_47 rfl (by decide) (oh' C 49 (Ls' := #[.val (.int 127), .val (.int 25)]) d16_48 rfl rfl (ob' C 50 d16_49 rfl rfl (om' C 52 (16 : Int32) d16_50 rfl (by decide) (ol' C 55 d16_52 rfl (by decide) ?_))))
    refine oo' C 58 (Ls' := #[.val (.int 127), .val (.int 29)]) (4 : Int32) d16_55 rfl (by decide) rfl rfl (ob' C 59 d16_58 rfl rfl (oe' C 60 (4 : Int32) d16_59 rfl (by decide) (ok' C 61 (7 : Int32) d16_60 rfl (by decide) (oh' C 62 (Ls' := #[.val (.int 7), .val (.int 29)]) d16_61 rfl rfl ?_))))
    refine ob' C 63 d16_62 rfl rfl (oe' C 64 (4 : Int32) d16_63 rfl (by decide) (ol' C 67 d16_64 rfl (by decide) (oo' C 70 (Ls' := #[.val (.int 7), .val (.int 31)]) (2 : Int32) d16_67 rfl (by decide) rfl rfl (ob' C 71 d16_70 rfl rfl ?_))))
    refine oe' C 72 (2 : Int32) d16_71 rfl (by decide) (ok' C 73 (1 : Int32) d16_72 rfl (by decide) (oh' C 74 (Ls' := #[.val (.int 1), .val (.int 31)]) d16_73 rfl rfl (ob' C 75 d16_74 rfl rfl (ob' C 76 d16_75 rfl rfl ?_))))
    refine oe' C 77 (1 : Int32) d16_76 rfl (by decide) (ok' C 78 (0 : Int32) d16_77 rfl (by decide) (oz' C 79 (31 : Int32) d16_78 rfl (by decide) (op' C d16_79 rfl (by decide) (by decide) ?_)))
    exact ⟨(31 : Int32), rfl, rfl, et⟩
theorem ct_bc1 (l : Launch) (Z : State) (a0 : Array Value) (hw : HW a0 Z) {one t1 zero t0 pos neg : Addr} {k1 k0 kp kn : ClassId} {pvs nvs : List Value} (am : Amb Z a0 one t1 zero t0 pos neg k1 k0 kp kn pvs nvs) {h0 : Heap} :
    Py l Z (⟨"java/lang/Integer", "bitCount", "(I)I"⟩ : MethodName) 1 12 0 0 #[.int 1] h0 [] (fun rv h' => rv = some (.int 1) ∧ h' = h0) := by
  refine Ct.py (by0 := y32) (ml := 1) (rt := (some .int)) (rm := ({ frames := 0, cells := 0, slots := 0, locals := 0 } : Room)) ?_ (hq hw 159 rfl) (hq hw 96 rfl)
  refine Ct.mk (a0 := a0) (Ls := #[.val (.int 1)]) (plainFor_of_name pn_java_lang_Integer) (fun m => by simp [entryFrame, mkF, argsToLocals, Value.category]) ?_
  intro κ C
  show Go l _ Z _ _ _ κ [] h0 0 #[.val (.int 1)] [] 0 0
  refine ob' C 1 d28_0 rfl rfl (ob' C 2 d28_1 rfl rfl (oe' C 3 (1 : Int32) d28_2 rfl (by decide) (ok' C 4 (0 : Int32) d28_3 rfl (by decide) (ov' C 7 (v := (1431655765 : Int32)) d28_4 rfl (hq hw 160 rfl) ?_))))
  refine od1' C 8 (0 : Int32) d28_7 rfl (by decide) (ow' C 9 (1 : Int32) d28_8 rfl (by decide) (oh' C 10 (Ls' := #[.val (.int 1)]) d28_9 rfl rfl (ob' C 11 d28_10 rfl rfl (ov' C 14 (v := (858993459 : Int32)) d28_11 rfl (hq hw 161 rfl) ?_))))
  refine od1' C 15 (1 : Int32) d28_14 rfl (by decide) (ob' C 16 d28_15 rfl rfl (oe' C 17 (2 : Int32) d28_16 rfl (by decide) (ok' C 18 (0 : Int32) d28_17 rfl (by decide) (ov' C 21 (v := (858993459 : Int32)) d28_18 rfl (hq hw 161 rfl) ?_))))
  refine od1' C 22 (0 : Int32) d28_21 rfl (by decide) (oz' C 23 (1 : Int32) d28_22 rfl (by decide) (oh' C 24 (Ls' := #[.val (.int 1)]) d28_23 rfl rfl (ob' C 25 d28_24 rfl rfl (ob' C 26 d28_25 rfl rfl ?_))))
  refine oe' C 27 (4 : Int32) d28_26 rfl (by decide) (ok' C 28 (0 : Int32) d28_27 rfl (by decide) (oz' C 29 (1 : Int32) d28_28 rfl (by decide) (ov' C 32 (v := (252645135 : Int32)) d28_29 rfl (hq hw 162 rfl) (od1' C 33 (1 : Int32) d28_32 rfl (by decide) ?_))))
  refine oh' C 34 (Ls' := #[.val (.int 1)]) d28_33 rfl rfl (ob' C 35 d28_34 rfl rfl (ob' C 36 d28_35 rfl rfl (om' C 38 (8 : Int32) d28_36 rfl (by decide) (ok' C 39 (0 : Int32) d28_38 rfl (by decide) ?_))))
  refine oz' C 40 (1 : Int32) d28_39 rfl (by decide) (oh' C 41 (Ls' := #[.val (.int 1)]) d28_40 rfl rfl (ob' C 42 d28_41 rfl rfl (ob' C 43 d28_42 rfl rfl (om' C 45 (16 : Int32) d28_43 rfl (by decide) ?_))))
  refine ok' C 46 (0 : Int32) d28_45 rfl (by decide) (oz' C 47 (1 : Int32) d28_46 rfl (by decide) (oh' C 48 (Ls' := #[.val (.int 1)]) d28_47 rfl rfl (ob' C 49 d28_48 rfl rfl (om' C 51 (63 : Int32) d28_49 rfl (by decide) ?_))))
  refine od1' C 52 (1 : Int32) d28_51 rfl (by decide) (op' C d28_52 rfl (by decide) (by decide) ?_)
  exact ⟨rfl, rfl⟩
theorem ct_nlz (l : Launch) (Z : State) (a0 : Array Value) (hw : HW a0 Z) {one t1 zero t0 pos neg : Addr} {k1 k0 kp kn : ClassId} {pvs nvs : List Value} (am : Amb Z a0 one t1 zero t0 pos neg k1 k0 kp kn pvs nvs) {x : Int32} {h0 : Heap} (hx : ¬ (x = (0 : Int32))) :
    Py l Z (⟨"java/lang/Integer", "numberOfLeadingZeros", "(I)I"⟩ : MethodName) 1 13 0 0 #[.int x] h0 [] (fun rv h' => ∃ (z : Int32), rv = some (.int z) ∧ h' = h0 ∧ (Bl x ((32 : Int32) - z))) := by
  refine Ct.py (by0 := y30) (ml := 2) (rt := (some .int)) (rm := ({ frames := 0, cells := 0, slots := 0, locals := 0 } : Room)) ?_ (hq hw 203 rfl) (hq hw 96 rfl)
  refine Ct.mk (a0 := a0) (Ls := #[.val (.int x), .unset]) (plainFor_of_name pn_java_lang_Integer) (fun m => by simp [entryFrame, mkF, argsToLocals, Value.category]) ?_
  intro κ C
  show Go l _ Z _ _ _ κ [] h0 0 #[.val (.int x), .unset] [] 0 0
  rcases bl_cases hx with hb | hb | hb | hb | hb | hb | hb | hb | hb | hb | hb | hb | hb | hb | hb | hb | hb | hb | hb | hb | hb | hb | hb | hb | hb | hb | hb | hb | hb | hb | hb | hb
  · skip
    refine ob' C 1 d36_0 rfl rfl (on' C (pc' := 15) d36_1 (tlt (pos_uN.mpr ⟨by omega, by omega⟩ : (0 : Int32) < x)).2.2.1 (by decide) (by decide) (om' C 17 (31 : Int32) d36_15 rfl (by decide) (oh' C 18 (Ls' := #[.val (.int x), .val (.int 31)]) d36_17 rfl rfl (ob' C 19 d36_18 rfl rfl ?_))))
    refine ov' C 22 (v := (65536 : Int32)) d36_19 rfl (hq hw 107 rfl) (oj' C (pc' := 33) d36_22 (tlt ((lt_lit (x := x) (c := (65536 : Int32)) (by omega) (by decide)).mpr ((show uN (65536 : Int32) = 65536 by decide).symm ▸ (by omega)) : x < (65536 : Int32))).1 (by decide) (by decide) (ob' C 34 d36_33 rfl rfl (ox' C 37 (256 : Int32) d36_34 rfl (by decide) (oj' C (pc' := 48) d36_37 (tlt ((lt_lit (x := x) (c := (256 : Int32)) (by omega) (by decide)).mpr ((show uN (256 : Int32) = 256 by decide).symm ▸ (by omega)) : x < (256 : Int32))).1 (by decide) (by decide) ?_))))
    refine ob' C 49 d36_48 rfl rfl (om' C 51 (16 : Int32) d36_49 rfl (by decide) (oj' C (pc' := 61) d36_51 (tlt ((lt_lit (x := x) (c := (16 : Int32)) (by omega) (by decide)).mpr ((show uN (16 : Int32) = 16 by decide).symm ▸ (by omega)) : x < (16 : Int32))).1 (by decide) (by decide) (ob' C 62 d36_61 rfl rfl (oe' C 63 (4 : Int32) d36_62 rfl (by decide) ?_))))
    refine oj' C (pc' := 73) d36_63 (tlt ((lt_lit (x := x) (c := (4 : Int32)) (by omega) (by decide)).mpr ((show uN (4 : Int32) = 4 by decide).symm ▸ (by omega)) : x < (4 : Int32))).1 (by decide) (by decide) (ob' C 74 d36_73 rfl rfl (ob' C 75 d36_74 rfl rfl (oe' C 76 (1 : Int32) d36_75 rfl (by decide) (ok' C 77 (0 : Int32) d36_76 rfl ((ushr_sh x (1 : Int32) 1 (by decide)).trans (sh_lit (x := x) 1 2 rfl 0 (by omega) (by decide))) ?_))))
    refine ow' C 78 (31 : Int32) d36_77 rfl (by decide) (op' C d36_78 rfl (by decide) (by decide) ?_)
    exact ⟨(31 : Int32), rfl, rfl, (Bl.mk x _ 0 (by decide) (by decide) hb.1 hb.2)⟩
  · skip
    refine ob' C 1 d36_0 rfl rfl (on' C (pc' := 15) d36_1 (tlt (pos_uN.mpr ⟨by omega, by omega⟩ : (0 : Int32) < x)).2.2.1 (by decide) (by decide) (om' C 17 (31 : Int32) d36_15 rfl (by decide) (oh' C 18 (Ls' := #[.val (.int x), .val (.int 31)]) d36_17 rfl rfl (ob' C 19 d36_18 rfl rfl ?_))))
    refine ov' C 22 (v := (65536 : Int32)) d36_19 rfl (hq hw 107 rfl) (oj' C (pc' := 33) d36_22 (tlt ((lt_lit (x := x) (c := (65536 : Int32)) (by omega) (by decide)).mpr ((show uN (65536 : Int32) = 65536 by decide).symm ▸ (by omega)) : x < (65536 : Int32))).1 (by decide) (by decide) (ob' C 34 d36_33 rfl rfl (ox' C 37 (256 : Int32) d36_34 rfl (by decide) (oj' C (pc' := 48) d36_37 (tlt ((lt_lit (x := x) (c := (256 : Int32)) (by omega) (by decide)).mpr ((show uN (256 : Int32) = 256 by decide).symm ▸ (by omega)) : x < (256 : Int32))).1 (by decide) (by decide) ?_))))
    refine ob' C 49 d36_48 rfl rfl (om' C 51 (16 : Int32) d36_49 rfl (by decide) (oj' C (pc' := 61) d36_51 (tlt ((lt_lit (x := x) (c := (16 : Int32)) (by omega) (by decide)).mpr ((show uN (16 : Int32) = 16 by decide).symm ▸ (by omega)) : x < (16 : Int32))).1 (by decide) (by decide) (ob' C 62 d36_61 rfl rfl (oe' C 63 (4 : Int32) d36_62 rfl (by decide) ?_))))
    refine oj' C (pc' := 73) d36_63 (tlt ((lt_lit (x := x) (c := (4 : Int32)) (by omega) (by decide)).mpr ((show uN (4 : Int32) = 4 by decide).symm ▸ (by omega)) : x < (4 : Int32))).1 (by decide) (by decide) (ob' C 74 d36_73 rfl rfl (ob' C 75 d36_74 rfl rfl (oe' C 76 (1 : Int32) d36_75 rfl (by decide) (ok' C 77 (1 : Int32) d36_76 rfl ((ushr_sh x (1 : Int32) 1 (by decide)).trans (sh_lit (x := x) 1 2 rfl 1 (by omega) (by decide))) ?_))))
    refine ow' C 78 (30 : Int32) d36_77 rfl (by decide) (op' C d36_78 rfl (by decide) (by decide) ?_)
    exact ⟨(30 : Int32), rfl, rfl, (Bl.mk x _ 1 (by decide) (by decide) hb.1 hb.2)⟩
  · skip
    refine ob' C 1 d36_0 rfl rfl (on' C (pc' := 15) d36_1 (tlt (pos_uN.mpr ⟨by omega, by omega⟩ : (0 : Int32) < x)).2.2.1 (by decide) (by decide) (om' C 17 (31 : Int32) d36_15 rfl (by decide) (oh' C 18 (Ls' := #[.val (.int x), .val (.int 31)]) d36_17 rfl rfl (ob' C 19 d36_18 rfl rfl ?_))))
    refine ov' C 22 (v := (65536 : Int32)) d36_19 rfl (hq hw 107 rfl) (oj' C (pc' := 33) d36_22 (tlt ((lt_lit (x := x) (c := (65536 : Int32)) (by omega) (by decide)).mpr ((show uN (65536 : Int32) = 65536 by decide).symm ▸ (by omega)) : x < (65536 : Int32))).1 (by decide) (by decide) (ob' C 34 d36_33 rfl rfl (ox' C 37 (256 : Int32) d36_34 rfl (by decide) (oj' C (pc' := 48) d36_37 (tlt ((lt_lit (x := x) (c := (256 : Int32)) (by omega) (by decide)).mpr ((show uN (256 : Int32) = 256 by decide).symm ▸ (by omega)) : x < (256 : Int32))).1 (by decide) (by decide) ?_))))
    refine ob' C 49 d36_48 rfl rfl (om' C 51 (16 : Int32) d36_49 rfl (by decide) (oj' C (pc' := 61) d36_51 (tlt ((lt_lit (x := x) (c := (16 : Int32)) (by omega) (by decide)).mpr ((show uN (16 : Int32) = 16 by decide).symm ▸ (by omega)) : x < (16 : Int32))).1 (by decide) (by decide) (ob' C 62 d36_61 rfl rfl (oe' C 63 (4 : Int32) d36_62 rfl (by decide) ?_))))
    refine ol' C 66 d36_63 rfl (flt (fun z => absurd ((show uN (4 : Int32) = 4 by decide) ▸ (lt_lit (x := x) (c := (4 : Int32)) (by omega) (by decide)).mp z : uN x < 4) (by omega) : ¬ (x < (4 : Int32)))).1 (oo' C 69 (Ls' := #[.val (.int x), .val (.int 29)]) (-2 : Int32) d36_66 rfl (by decide) rfl rfl (ob' C 70 d36_69 rfl rfl (oe' C 71 (2 : Int32) d36_70 rfl (by decide) (ok' C 72 (sh x 2) d36_71 rfl (ushr_sh x (2 : Int32) 2 (by decide)) ?_))))
    refine oh' C 73 (Ls' := #[.val (.int (sh x 2)), .val (.int 29)]) d36_72 rfl rfl (ob' C 74 d36_73 rfl rfl (ob' C 75 d36_74 rfl rfl (oe' C 76 (1 : Int32) d36_75 rfl (by decide) (ok' C 77 (0 : Int32) d36_76 rfl ((sh_ushr x 2 (1 : Int32) 1 (by decide)).trans (sh_lit (x := x) 3 8 rfl 0 (by omega) (by decide))) ?_))))
    refine ow' C 78 (29 : Int32) d36_77 rfl (by decide) (op' C d36_78 rfl (by decide) (by decide) ?_)
    exact ⟨(29 : Int32), rfl, rfl, (Bl.mk x _ 2 (by decide) (by decide) hb.1 hb.2)⟩
  · skip
    refine ob' C 1 d36_0 rfl rfl (on' C (pc' := 15) d36_1 (tlt (pos_uN.mpr ⟨by omega, by omega⟩ : (0 : Int32) < x)).2.2.1 (by decide) (by decide) (om' C 17 (31 : Int32) d36_15 rfl (by decide) (oh' C 18 (Ls' := #[.val (.int x), .val (.int 31)]) d36_17 rfl rfl (ob' C 19 d36_18 rfl rfl ?_))))
    refine ov' C 22 (v := (65536 : Int32)) d36_19 rfl (hq hw 107 rfl) (oj' C (pc' := 33) d36_22 (tlt ((lt_lit (x := x) (c := (65536 : Int32)) (by omega) (by decide)).mpr ((show uN (65536 : Int32) = 65536 by decide).symm ▸ (by omega)) : x < (65536 : Int32))).1 (by decide) (by decide) (ob' C 34 d36_33 rfl rfl (ox' C 37 (256 : Int32) d36_34 rfl (by decide) (oj' C (pc' := 48) d36_37 (tlt ((lt_lit (x := x) (c := (256 : Int32)) (by omega) (by decide)).mpr ((show uN (256 : Int32) = 256 by decide).symm ▸ (by omega)) : x < (256 : Int32))).1 (by decide) (by decide) ?_))))
    refine ob' C 49 d36_48 rfl rfl (om' C 51 (16 : Int32) d36_49 rfl (by decide) (oj' C (pc' := 61) d36_51 (tlt ((lt_lit (x := x) (c := (16 : Int32)) (by omega) (by decide)).mpr ((show uN (16 : Int32) = 16 by decide).symm ▸ (by omega)) : x < (16 : Int32))).1 (by decide) (by decide) (ob' C 62 d36_61 rfl rfl (oe' C 63 (4 : Int32) d36_62 rfl (by decide) ?_))))
    refine ol' C 66 d36_63 rfl (flt (fun z => absurd ((show uN (4 : Int32) = 4 by decide) ▸ (lt_lit (x := x) (c := (4 : Int32)) (by omega) (by decide)).mp z : uN x < 4) (by omega) : ¬ (x < (4 : Int32)))).1 (oo' C 69 (Ls' := #[.val (.int x), .val (.int 29)]) (-2 : Int32) d36_66 rfl (by decide) rfl rfl (ob' C 70 d36_69 rfl rfl (oe' C 71 (2 : Int32) d36_70 rfl (by decide) (ok' C 72 (sh x 2) d36_71 rfl (ushr_sh x (2 : Int32) 2 (by decide)) ?_))))
    refine oh' C 73 (Ls' := #[.val (.int (sh x 2)), .val (.int 29)]) d36_72 rfl rfl (ob' C 74 d36_73 rfl rfl (ob' C 75 d36_74 rfl rfl (oe' C 76 (1 : Int32) d36_75 rfl (by decide) (ok' C 77 (1 : Int32) d36_76 rfl ((sh_ushr x 2 (1 : Int32) 1 (by decide)).trans (sh_lit (x := x) 3 8 rfl 1 (by omega) (by decide))) ?_))))
    refine ow' C 78 (28 : Int32) d36_77 rfl (by decide) (op' C d36_78 rfl (by decide) (by decide) ?_)
    exact ⟨(28 : Int32), rfl, rfl, (Bl.mk x _ 3 (by decide) (by decide) hb.1 hb.2)⟩
  · skip
    refine ob' C 1 d36_0 rfl rfl (on' C (pc' := 15) d36_1 (tlt (pos_uN.mpr ⟨by omega, by omega⟩ : (0 : Int32) < x)).2.2.1 (by decide) (by decide) (om' C 17 (31 : Int32) d36_15 rfl (by decide) (oh' C 18 (Ls' := #[.val (.int x), .val (.int 31)]) d36_17 rfl rfl (ob' C 19 d36_18 rfl rfl ?_))))
    refine ov' C 22 (v := (65536 : Int32)) d36_19 rfl (hq hw 107 rfl) (oj' C (pc' := 33) d36_22 (tlt ((lt_lit (x := x) (c := (65536 : Int32)) (by omega) (by decide)).mpr ((show uN (65536 : Int32) = 65536 by decide).symm ▸ (by omega)) : x < (65536 : Int32))).1 (by decide) (by decide) (ob' C 34 d36_33 rfl rfl (ox' C 37 (256 : Int32) d36_34 rfl (by decide) (oj' C (pc' := 48) d36_37 (tlt ((lt_lit (x := x) (c := (256 : Int32)) (by omega) (by decide)).mpr ((show uN (256 : Int32) = 256 by decide).symm ▸ (by omega)) : x < (256 : Int32))).1 (by decide) (by decide) ?_))))
    refine ob' C 49 d36_48 rfl rfl (om' C 51 (16 : Int32) d36_49 rfl (by decide) (ol' C 54 d36_51 rfl (flt (fun z => absurd ((show uN (16 : Int32) = 16 by decide) ▸ (lt_lit (x := x) (c := (16 : Int32)) (by omega) (by decide)).mp z : uN x < 16) (by omega) : ¬ (x < (16 : Int32)))).1 (oo' C 57 (Ls' := #[.val (.int x), .val (.int 27)]) (-4 : Int32) d36_54 rfl (by decide) rfl rfl (ob' C 58 d36_57 rfl rfl ?_))))
    refine oe' C 59 (4 : Int32) d36_58 rfl (by decide) (ok' C 60 (sh x 4) d36_59 rfl (ushr_sh x (4 : Int32) 4 (by decide)) (oh' C 61 (Ls' := #[.val (.int (sh x 4)), .val (.int 27)]) d36_60 rfl rfl (ob' C 62 d36_61 rfl rfl (oe' C 63 (4 : Int32) d36_62 rfl (by decide) ?_))))
    refine oj' C (pc' := 73) d36_63 (tlt ((sh_lt (x := x) 4 16 rfl (4 : Int32) 4 (by decide) (by decide) (by omega)).mpr (by omega) : (sh x 4) < (4 : Int32))).1 (by decide) (by decide) (ob' C 74 d36_73 rfl rfl (ob' C 75 d36_74 rfl rfl (oe' C 76 (1 : Int32) d36_75 rfl (by decide) (ok' C 77 (0 : Int32) d36_76 rfl ((sh_ushr x 4 (1 : Int32) 1 (by decide)).trans (sh_lit (x := x) 5 32 rfl 0 (by omega) (by decide))) ?_))))
    refine ow' C 78 (27 : Int32) d36_77 rfl (by decide) (op' C d36_78 rfl (by decide) (by decide) ?_)
    exact ⟨(27 : Int32), rfl, rfl, (Bl.mk x _ 4 (by decide) (by decide) hb.1 hb.2)⟩
  · skip
    refine ob' C 1 d36_0 rfl rfl (on' C (pc' := 15) d36_1 (tlt (pos_uN.mpr ⟨by omega, by omega⟩ : (0 : Int32) < x)).2.2.1 (by decide) (by decide) (om' C 17 (31 : Int32) d36_15 rfl (by decide) (oh' C 18 (Ls' := #[.val (.int x), .val (.int 31)]) d36_17 rfl rfl (ob' C 19 d36_18 rfl rfl ?_))))
    refine ov' C 22 (v := (65536 : Int32)) d36_19 rfl (hq hw 107 rfl) (oj' C (pc' := 33) d36_22 (tlt ((lt_lit (x := x) (c := (65536 : Int32)) (by omega) (by decide)).mpr ((show uN (65536 : Int32) = 65536 by decide).symm ▸ (by omega)) : x < (65536 : Int32))).1 (by decide) (by decide) (ob' C 34 d36_33 rfl rfl (ox' C 37 (256 : Int32) d36_34 rfl (by decide) (oj' C (pc' := 48) d36_37 (tlt ((lt_lit (x := x) (c := (256 : Int32)) (by omega) (by decide)).mpr ((show uN (256 : Int32) = 256 by decide).symm ▸ (by omega)) : x < (256 : Int32))).1 (by decide) (by decide) ?_))))
    refine ob' C 49 d36_48 rfl rfl (om' C 51 (16 : Int32) d36_49 rfl (by decide) (ol' C 54 d36_51 rfl (flt (fun z => absurd ((show uN (16 : Int32) = 16 by decide) ▸ (lt_lit (x := x) (c := (16 : Int32)) (by omega) (by decide)).mp z : uN x < 16) (by omega) : ¬ (x < (16 : Int32)))).1 (oo' C 57 (Ls' := #[.val (.int x), .val (.int 27)]) (-4 : Int32) d36_54 rfl (by decide) rfl rfl (ob' C 58 d36_57 rfl rfl ?_))))
    refine oe' C 59 (4 : Int32) d36_58 rfl (by decide) (ok' C 60 (sh x 4) d36_59 rfl (ushr_sh x (4 : Int32) 4 (by decide)) (oh' C 61 (Ls' := #[.val (.int (sh x 4)), .val (.int 27)]) d36_60 rfl rfl (ob' C 62 d36_61 rfl rfl (oe' C 63 (4 : Int32) d36_62 rfl (by decide) ?_))))
    refine oj' C (pc' := 73) d36_63 (tlt ((sh_lt (x := x) 4 16 rfl (4 : Int32) 4 (by decide) (by decide) (by omega)).mpr (by omega) : (sh x 4) < (4 : Int32))).1 (by decide) (by decide) (ob' C 74 d36_73 rfl rfl (ob' C 75 d36_74 rfl rfl (oe' C 76 (1 : Int32) d36_75 rfl (by decide) (ok' C 77 (1 : Int32) d36_76 rfl ((sh_ushr x 4 (1 : Int32) 1 (by decide)).trans (sh_lit (x := x) 5 32 rfl 1 (by omega) (by decide))) ?_))))
    refine ow' C 78 (26 : Int32) d36_77 rfl (by decide) (op' C d36_78 rfl (by decide) (by decide) ?_)
    exact ⟨(26 : Int32), rfl, rfl, (Bl.mk x _ 5 (by decide) (by decide) hb.1 hb.2)⟩
  · skip
    refine ob' C 1 d36_0 rfl rfl (on' C (pc' := 15) d36_1 (tlt (pos_uN.mpr ⟨by omega, by omega⟩ : (0 : Int32) < x)).2.2.1 (by decide) (by decide) (om' C 17 (31 : Int32) d36_15 rfl (by decide) (oh' C 18 (Ls' := #[.val (.int x), .val (.int 31)]) d36_17 rfl rfl (ob' C 19 d36_18 rfl rfl ?_))))
    refine ov' C 22 (v := (65536 : Int32)) d36_19 rfl (hq hw 107 rfl) (oj' C (pc' := 33) d36_22 (tlt ((lt_lit (x := x) (c := (65536 : Int32)) (by omega) (by decide)).mpr ((show uN (65536 : Int32) = 65536 by decide).symm ▸ (by omega)) : x < (65536 : Int32))).1 (by decide) (by decide) (ob' C 34 d36_33 rfl rfl (ox' C 37 (256 : Int32) d36_34 rfl (by decide) (oj' C (pc' := 48) d36_37 (tlt ((lt_lit (x := x) (c := (256 : Int32)) (by omega) (by decide)).mpr ((show uN (256 : Int32) = 256 by decide).symm ▸ (by omega)) : x < (256 : Int32))).1 (by decide) (by decide) ?_))))
    refine ob' C 49 d36_48 rfl rfl (om' C 51 (16 : Int32) d36_49 rfl (by decide) (ol' C 54 d36_51 rfl (flt (fun z => absurd ((show uN (16 : Int32) = 16 by decide) ▸ (lt_lit (x := x) (c := (16 : Int32)) (by omega) (by decide)).mp z : uN x < 16) (by omega) : ¬ (x < (16 : Int32)))).1 (oo' C 57 (Ls' := #[.val (.int x), .val (.int 27)]) (-4 : Int32) d36_54 rfl (by decide) rfl rfl (ob' C 58 d36_57 rfl rfl ?_))))
    refine oe' C 59 (4 : Int32) d36_58 rfl (by decide) (ok' C 60 (sh x 4) d36_59 rfl (ushr_sh x (4 : Int32) 4 (by decide)) (oh' C 61 (Ls' := #[.val (.int (sh x 4)), .val (.int 27)]) d36_60 rfl rfl (ob' C 62 d36_61 rfl rfl (oe' C 63 (4 : Int32) d36_62 rfl (by decide) ?_))))
    refine ol' C 66 d36_63 rfl (flt (fun z => absurd ((sh_lt (x := x) 4 16 rfl (4 : Int32) 4 (by decide) (by decide) (by omega)).mp z) (by omega) : ¬ ((sh x 4) < (4 : Int32)))).1 (oo' C 69 (Ls' := #[.val (.int (sh x 4)), .val (.int 25)]) (-2 : Int32) d36_66 rfl (by decide) rfl rfl (ob' C 70 d36_69 rfl rfl (oe' C 71 (2 : Int32) d36_70 rfl (by decide) (ok' C 72 (sh x 6) d36_71 rfl (sh_ushr x 4 (2 : Int32) 2 (by decide)) ?_))))
    refine oh' C 73 (Ls' := #[.val (.int (sh x 6)), .val (.int 25)]) d36_72 rfl rfl (ob' C 74 d36_73 rfl rfl (ob' C 75 d36_74 rfl rfl (oe' C 76 (1 : Int32) d36_75 rfl (by decide) (ok' C 77 (0 : Int32) d36_76 rfl ((sh_ushr x 6 (1 : Int32) 1 (by decide)).trans (sh_lit (x := x) 7 128 rfl 0 (by omega) (by decide))) ?_))))
    refine ow' C 78 (25 : Int32) d36_77 rfl (by decide) (op' C d36_78 rfl (by decide) (by decide) ?_)
    exact ⟨(25 : Int32), rfl, rfl, (Bl.mk x _ 6 (by decide) (by decide) hb.1 hb.2)⟩
  · skip
    refine ob' C 1 d36_0 rfl rfl (on' C (pc' := 15) d36_1 (tlt (pos_uN.mpr ⟨by omega, by omega⟩ : (0 : Int32) < x)).2.2.1 (by decide) (by decide) (om' C 17 (31 : Int32) d36_15 rfl (by decide) (oh' C 18 (Ls' := #[.val (.int x), .val (.int 31)]) d36_17 rfl rfl (ob' C 19 d36_18 rfl rfl ?_))))
    refine ov' C 22 (v := (65536 : Int32)) d36_19 rfl (hq hw 107 rfl) (oj' C (pc' := 33) d36_22 (tlt ((lt_lit (x := x) (c := (65536 : Int32)) (by omega) (by decide)).mpr ((show uN (65536 : Int32) = 65536 by decide).symm ▸ (by omega)) : x < (65536 : Int32))).1 (by decide) (by decide) (ob' C 34 d36_33 rfl rfl (ox' C 37 (256 : Int32) d36_34 rfl (by decide) (oj' C (pc' := 48) d36_37 (tlt ((lt_lit (x := x) (c := (256 : Int32)) (by omega) (by decide)).mpr ((show uN (256 : Int32) = 256 by decide).symm ▸ (by omega)) : x < (256 : Int32))).1 (by decide) (by decide) ?_))))
    refine ob' C 49 d36_48 rfl rfl (om' C 51 (16 : Int32) d36_49 rfl (by decide) (ol' C 54 d36_51 rfl (flt (fun z => absurd ((show uN (16 : Int32) = 16 by decide) ▸ (lt_lit (x := x) (c := (16 : Int32)) (by omega) (by decide)).mp z : uN x < 16) (by omega) : ¬ (x < (16 : Int32)))).1 (oo' C 57 (Ls' := #[.val (.int x), .val (.int 27)]) (-4 : Int32) d36_54 rfl (by decide) rfl rfl (ob' C 58 d36_57 rfl rfl ?_))))
    refine oe' C 59 (4 : Int32) d36_58 rfl (by decide) (ok' C 60 (sh x 4) d36_59 rfl (ushr_sh x (4 : Int32) 4 (by decide)) (oh' C 61 (Ls' := #[.val (.int (sh x 4)), .val (.int 27)]) d36_60 rfl rfl (ob' C 62 d36_61 rfl rfl (oe' C 63 (4 : Int32) d36_62 rfl (by decide) ?_))))
    refine ol' C 66 d36_63 rfl (flt (fun z => absurd ((sh_lt (x := x) 4 16 rfl (4 : Int32) 4 (by decide) (by decide) (by omega)).mp z) (by omega) : ¬ ((sh x 4) < (4 : Int32)))).1 (oo' C 69 (Ls' := #[.val (.int (sh x 4)), .val (.int 25)]) (-2 : Int32) d36_66 rfl (by decide) rfl rfl (ob' C 70 d36_69 rfl rfl (oe' C 71 (2 : Int32) d36_70 rfl (by decide) (ok' C 72 (sh x 6) d36_71 rfl (sh_ushr x 4 (2 : Int32) 2 (by decide)) ?_))))
    refine oh' C 73 (Ls' := #[.val (.int (sh x 6)), .val (.int 25)]) d36_72 rfl rfl (ob' C 74 d36_73 rfl rfl (ob' C 75 d36_74 rfl rfl (oe' C 76 (1 : Int32) d36_75 rfl (by decide) (ok' C 77 (1 : Int32) d36_76 rfl ((sh_ushr x 6 (1 : Int32) 1 (by decide)).trans (sh_lit (x := x) 7 128 rfl 1 (by omega) (by decide))) ?_))))
    refine ow' C 78 (24 : Int32) d36_77 rfl (by decide) (op' C d36_78 rfl (by decide) (by decide) ?_)
    exact ⟨(24 : Int32), rfl, rfl, (Bl.mk x _ 7 (by decide) (by decide) hb.1 hb.2)⟩
  · skip
    refine ob' C 1 d36_0 rfl rfl (on' C (pc' := 15) d36_1 (tlt (pos_uN.mpr ⟨by omega, by omega⟩ : (0 : Int32) < x)).2.2.1 (by decide) (by decide) (om' C 17 (31 : Int32) d36_15 rfl (by decide) (oh' C 18 (Ls' := #[.val (.int x), .val (.int 31)]) d36_17 rfl rfl (ob' C 19 d36_18 rfl rfl ?_))))
    refine ov' C 22 (v := (65536 : Int32)) d36_19 rfl (hq hw 107 rfl) (oj' C (pc' := 33) d36_22 (tlt ((lt_lit (x := x) (c := (65536 : Int32)) (by omega) (by decide)).mpr ((show uN (65536 : Int32) = 65536 by decide).symm ▸ (by omega)) : x < (65536 : Int32))).1 (by decide) (by decide) (ob' C 34 d36_33 rfl rfl (ox' C 37 (256 : Int32) d36_34 rfl (by decide) (ol' C 40 d36_37 rfl (flt (fun z => absurd ((show uN (256 : Int32) = 256 by decide) ▸ (lt_lit (x := x) (c := (256 : Int32)) (by omega) (by decide)).mp z : uN x < 256) (by omega) : ¬ (x < (256 : Int32)))).1 ?_))))
    refine oo' C 43 (Ls' := #[.val (.int x), .val (.int 23)]) (-8 : Int32) d36_40 rfl (by decide) rfl rfl (ob' C 44 d36_43 rfl rfl (om' C 46 (8 : Int32) d36_44 rfl (by decide) (ok' C 47 (sh x 8) d36_46 rfl (ushr_sh x (8 : Int32) 8 (by decide)) (oh' C 48 (Ls' := #[.val (.int (sh x 8)), .val (.int 23)]) d36_47 rfl rfl ?_))))
    refine ob' C 49 d36_48 rfl rfl (om' C 51 (16 : Int32) d36_49 rfl (by decide) (oj' C (pc' := 61) d36_51 (tlt ((sh_lt (x := x) 8 256 rfl (16 : Int32) 16 (by decide) (by decide) (by omega)).mpr (by omega) : (sh x 8) < (16 : Int32))).1 (by decide) (by decide) (ob' C 62 d36_61 rfl rfl (oe' C 63 (4 : Int32) d36_62 rfl (by decide) ?_))))
    refine oj' C (pc' := 73) d36_63 (tlt ((sh_lt (x := x) 8 256 rfl (4 : Int32) 4 (by decide) (by decide) (by omega)).mpr (by omega) : (sh x 8) < (4 : Int32))).1 (by decide) (by decide) (ob' C 74 d36_73 rfl rfl (ob' C 75 d36_74 rfl rfl (oe' C 76 (1 : Int32) d36_75 rfl (by decide) (ok' C 77 (0 : Int32) d36_76 rfl ((sh_ushr x 8 (1 : Int32) 1 (by decide)).trans (sh_lit (x := x) 9 512 rfl 0 (by omega) (by decide))) ?_))))
    refine ow' C 78 (23 : Int32) d36_77 rfl (by decide) (op' C d36_78 rfl (by decide) (by decide) ?_)
    exact ⟨(23 : Int32), rfl, rfl, (Bl.mk x _ 8 (by decide) (by decide) hb.1 hb.2)⟩
  · skip
    refine ob' C 1 d36_0 rfl rfl (on' C (pc' := 15) d36_1 (tlt (pos_uN.mpr ⟨by omega, by omega⟩ : (0 : Int32) < x)).2.2.1 (by decide) (by decide) (om' C 17 (31 : Int32) d36_15 rfl (by decide) (oh' C 18 (Ls' := #[.val (.int x), .val (.int 31)]) d36_17 rfl rfl (ob' C 19 d36_18 rfl rfl ?_))))
    refine ov' C 22 (v := (65536 : Int32)) d36_19 rfl (hq hw 107 rfl) (oj' C (pc' := 33) d36_22 (tlt ((lt_lit (x := x) (c := (65536 : Int32)) (by omega) (by decide)).mpr ((show uN (65536 : Int32) = 65536 by decide).symm ▸ (by omega)) : x < (65536 : Int32))).1 (by decide) (by decide) (ob' C 34 d36_33 rfl rfl (ox' C 37 (256 : Int32) d36_34 rfl (by decide) (ol' C 40 d36_37 rfl (flt (fun z => absurd ((show uN (256 : Int32) = 256 by decide) ▸ (lt_lit (x := x) (c := (256 : Int32)) (by omega) (by decide)).mp z : uN x < 256) (by omega) : ¬ (x < (256 : Int32)))).1 ?_))))
    refine oo' C 43 (Ls' := #[.val (.int x), .val (.int 23)]) (-8 : Int32) d36_40 rfl (by decide) rfl rfl (ob' C 44 d36_43 rfl rfl (om' C 46 (8 : Int32) d36_44 rfl (by decide) (ok' C 47 (sh x 8) d36_46 rfl (ushr_sh x (8 : Int32) 8 (by decide)) (oh' C 48 (Ls' := #[.val (.int (sh x 8)), .val (.int 23)]) d36_47 rfl rfl ?_))))
    refine ob' C 49 d36_48 rfl rfl (om' C 51 (16 : Int32) d36_49 rfl (by decide) (oj' C (pc' := 61) d36_51 (tlt ((sh_lt (x := x) 8 256 rfl (16 : Int32) 16 (by decide) (by decide) (by omega)).mpr (by omega) : (sh x 8) < (16 : Int32))).1 (by decide) (by decide) (ob' C 62 d36_61 rfl rfl (oe' C 63 (4 : Int32) d36_62 rfl (by decide) ?_))))
    refine oj' C (pc' := 73) d36_63 (tlt ((sh_lt (x := x) 8 256 rfl (4 : Int32) 4 (by decide) (by decide) (by omega)).mpr (by omega) : (sh x 8) < (4 : Int32))).1 (by decide) (by decide) (ob' C 74 d36_73 rfl rfl (ob' C 75 d36_74 rfl rfl (oe' C 76 (1 : Int32) d36_75 rfl (by decide) (ok' C 77 (1 : Int32) d36_76 rfl ((sh_ushr x 8 (1 : Int32) 1 (by decide)).trans (sh_lit (x := x) 9 512 rfl 1 (by omega) (by decide))) ?_))))
    refine ow' C 78 (22 : Int32) d36_77 rfl (by decide) (op' C d36_78 rfl (by decide) (by decide) ?_)
    exact ⟨(22 : Int32), rfl, rfl, (Bl.mk x _ 9 (by decide) (by decide) hb.1 hb.2)⟩
  · skip
    refine ob' C 1 d36_0 rfl rfl (on' C (pc' := 15) d36_1 (tlt (pos_uN.mpr ⟨by omega, by omega⟩ : (0 : Int32) < x)).2.2.1 (by decide) (by decide) (om' C 17 (31 : Int32) d36_15 rfl (by decide) (oh' C 18 (Ls' := #[.val (.int x), .val (.int 31)]) d36_17 rfl rfl (ob' C 19 d36_18 rfl rfl ?_))))
    refine ov' C 22 (v := (65536 : Int32)) d36_19 rfl (hq hw 107 rfl) (oj' C (pc' := 33) d36_22 (tlt ((lt_lit (x := x) (c := (65536 : Int32)) (by omega) (by decide)).mpr ((show uN (65536 : Int32) = 65536 by decide).symm ▸ (by omega)) : x < (65536 : Int32))).1 (by decide) (by decide) (ob' C 34 d36_33 rfl rfl (ox' C 37 (256 : Int32) d36_34 rfl (by decide) (ol' C 40 d36_37 rfl (flt (fun z => absurd ((show uN (256 : Int32) = 256 by decide) ▸ (lt_lit (x := x) (c := (256 : Int32)) (by omega) (by decide)).mp z : uN x < 256) (by omega) : ¬ (x < (256 : Int32)))).1 ?_))))
    refine oo' C 43 (Ls' := #[.val (.int x), .val (.int 23)]) (-8 : Int32) d36_40 rfl (by decide) rfl rfl (ob' C 44 d36_43 rfl rfl (om' C 46 (8 : Int32) d36_44 rfl (by decide) (ok' C 47 (sh x 8) d36_46 rfl (ushr_sh x (8 : Int32) 8 (by decide)) (oh' C 48 (Ls' := #[.val (.int (sh x 8)), .val (.int 23)]) d36_47 rfl rfl ?_))))
    refine ob' C 49 d36_48 rfl rfl (om' C 51 (16 : Int32) d36_49 rfl (by decide) (oj' C (pc' := 61) d36_51 (tlt ((sh_lt (x := x) 8 256 rfl (16 : Int32) 16 (by decide) (by decide) (by omega)).mpr (by omega) : (sh x 8) < (16 : Int32))).1 (by decide) (by decide) (ob' C 62 d36_61 rfl rfl (oe' C 63 (4 : Int32) d36_62 rfl (by decide) ?_))))
    refine ol' C 66 d36_63 rfl (flt (fun z => absurd ((sh_lt (x := x) 8 256 rfl (4 : Int32) 4 (by decide) (by decide) (by omega)).mp z) (by omega) : ¬ ((sh x 8) < (4 : Int32)))).1 (oo' C 69 (Ls' := #[.val (.int (sh x 8)), .val (.int 21)]) (-2 : Int32) d36_66 rfl (by decide) rfl rfl (ob' C 70 d36_69 rfl rfl (oe' C 71 (2 : Int32) d36_70 rfl (by decide) (ok' C 72 (sh x 10) d36_71 rfl (sh_ushr x 8 (2 : Int32) 2 (by decide)) ?_))))
    refine oh' C 73 (Ls' := #[.val (.int (sh x 10)), .val (.int 21)]) d36_72 rfl rfl (ob' C 74 d36_73 rfl rfl (ob' C 75 d36_74 rfl rfl (oe' C 76 (1 : Int32) d36_75 rfl (by decide) (ok' C 77 (0 : Int32) d36_76 rfl ((sh_ushr x 10 (1 : Int32) 1 (by decide)).trans (sh_lit (x := x) 11 2048 rfl 0 (by omega) (by decide))) ?_))))
    refine ow' C 78 (21 : Int32) d36_77 rfl (by decide) (op' C d36_78 rfl (by decide) (by decide) ?_)
    exact ⟨(21 : Int32), rfl, rfl, (Bl.mk x _ 10 (by decide) (by decide) hb.1 hb.2)⟩
  · skip
    refine ob' C 1 d36_0 rfl rfl (on' C (pc' := 15) d36_1 (tlt (pos_uN.mpr ⟨by omega, by omega⟩ : (0 : Int32) < x)).2.2.1 (by decide) (by decide) (om' C 17 (31 : Int32) d36_15 rfl (by decide) (oh' C 18 (Ls' := #[.val (.int x), .val (.int 31)]) d36_17 rfl rfl (ob' C 19 d36_18 rfl rfl ?_))))
    refine ov' C 22 (v := (65536 : Int32)) d36_19 rfl (hq hw 107 rfl) (oj' C (pc' := 33) d36_22 (tlt ((lt_lit (x := x) (c := (65536 : Int32)) (by omega) (by decide)).mpr ((show uN (65536 : Int32) = 65536 by decide).symm ▸ (by omega)) : x < (65536 : Int32))).1 (by decide) (by decide) (ob' C 34 d36_33 rfl rfl (ox' C 37 (256 : Int32) d36_34 rfl (by decide) (ol' C 40 d36_37 rfl (flt (fun z => absurd ((show uN (256 : Int32) = 256 by decide) ▸ (lt_lit (x := x) (c := (256 : Int32)) (by omega) (by decide)).mp z : uN x < 256) (by omega) : ¬ (x < (256 : Int32)))).1 ?_))))
    refine oo' C 43 (Ls' := #[.val (.int x), .val (.int 23)]) (-8 : Int32) d36_40 rfl (by decide) rfl rfl (ob' C 44 d36_43 rfl rfl (om' C 46 (8 : Int32) d36_44 rfl (by decide) (ok' C 47 (sh x 8) d36_46 rfl (ushr_sh x (8 : Int32) 8 (by decide)) (oh' C 48 (Ls' := #[.val (.int (sh x 8)), .val (.int 23)]) d36_47 rfl rfl ?_))))
    refine ob' C 49 d36_48 rfl rfl (om' C 51 (16 : Int32) d36_49 rfl (by decide) (oj' C (pc' := 61) d36_51 (tlt ((sh_lt (x := x) 8 256 rfl (16 : Int32) 16 (by decide) (by decide) (by omega)).mpr (by omega) : (sh x 8) < (16 : Int32))).1 (by decide) (by decide) (ob' C 62 d36_61 rfl rfl (oe' C 63 (4 : Int32) d36_62 rfl (by decide) ?_))))
    refine ol' C 66 d36_63 rfl (flt (fun z => absurd ((sh_lt (x := x) 8 256 rfl (4 : Int32) 4 (by decide) (by decide) (by omega)).mp z) (by omega) : ¬ ((sh x 8) < (4 : Int32)))).1 (oo' C 69 (Ls' := #[.val (.int (sh x 8)), .val (.int 21)]) (-2 : Int32) d36_66 rfl (by decide) rfl rfl (ob' C 70 d36_69 rfl rfl (oe' C 71 (2 : Int32) d36_70 rfl (by decide) (ok' C 72 (sh x 10) d36_71 rfl (sh_ushr x 8 (2 : Int32) 2 (by decide)) ?_))))
    refine oh' C 73 (Ls' := #[.val (.int (sh x 10)), .val (.int 21)]) d36_72 rfl rfl (ob' C 74 d36_73 rfl rfl (ob' C 75 d36_74 rfl rfl (oe' C 76 (1 : Int32) d36_75 rfl (by decide) (ok' C 77 (1 : Int32) d36_76 rfl ((sh_ushr x 10 (1 : Int32) 1 (by decide)).trans (sh_lit (x := x) 11 2048 rfl 1 (by omega) (by decide))) ?_))))
    refine ow' C 78 (20 : Int32) d36_77 rfl (by decide) (op' C d36_78 rfl (by decide) (by decide) ?_)
    exact ⟨(20 : Int32), rfl, rfl, (Bl.mk x _ 11 (by decide) (by decide) hb.1 hb.2)⟩
  · skip
    refine ob' C 1 d36_0 rfl rfl (on' C (pc' := 15) d36_1 (tlt (pos_uN.mpr ⟨by omega, by omega⟩ : (0 : Int32) < x)).2.2.1 (by decide) (by decide) (om' C 17 (31 : Int32) d36_15 rfl (by decide) (oh' C 18 (Ls' := #[.val (.int x), .val (.int 31)]) d36_17 rfl rfl (ob' C 19 d36_18 rfl rfl ?_))))
    refine ov' C 22 (v := (65536 : Int32)) d36_19 rfl (hq hw 107 rfl) (oj' C (pc' := 33) d36_22 (tlt ((lt_lit (x := x) (c := (65536 : Int32)) (by omega) (by decide)).mpr ((show uN (65536 : Int32) = 65536 by decide).symm ▸ (by omega)) : x < (65536 : Int32))).1 (by decide) (by decide) (ob' C 34 d36_33 rfl rfl (ox' C 37 (256 : Int32) d36_34 rfl (by decide) (ol' C 40 d36_37 rfl (flt (fun z => absurd ((show uN (256 : Int32) = 256 by decide) ▸ (lt_lit (x := x) (c := (256 : Int32)) (by omega) (by decide)).mp z : uN x < 256) (by omega) : ¬ (x < (256 : Int32)))).1 ?_))))
    refine oo' C 43 (Ls' := #[.val (.int x), .val (.int 23)]) (-8 : Int32) d36_40 rfl (by decide) rfl rfl (ob' C 44 d36_43 rfl rfl (om' C 46 (8 : Int32) d36_44 rfl (by decide) (ok' C 47 (sh x 8) d36_46 rfl (ushr_sh x (8 : Int32) 8 (by decide)) (oh' C 48 (Ls' := #[.val (.int (sh x 8)), .val (.int 23)]) d36_47 rfl rfl ?_))))
    refine ob' C 49 d36_48 rfl rfl (om' C 51 (16 : Int32) d36_49 rfl (by decide) (ol' C 54 d36_51 rfl (flt (fun z => absurd ((sh_lt (x := x) 8 256 rfl (16 : Int32) 16 (by decide) (by decide) (by omega)).mp z) (by omega) : ¬ ((sh x 8) < (16 : Int32)))).1 (oo' C 57 (Ls' := #[.val (.int (sh x 8)), .val (.int 19)]) (-4 : Int32) d36_54 rfl (by decide) rfl rfl (ob' C 58 d36_57 rfl rfl ?_))))
    refine oe' C 59 (4 : Int32) d36_58 rfl (by decide) (ok' C 60 (sh x 12) d36_59 rfl (sh_ushr x 8 (4 : Int32) 4 (by decide)) (oh' C 61 (Ls' := #[.val (.int (sh x 12)), .val (.int 19)]) d36_60 rfl rfl (ob' C 62 d36_61 rfl rfl (oe' C 63 (4 : Int32) d36_62 rfl (by decide) ?_))))
    refine oj' C (pc' := 73) d36_63 (tlt ((sh_lt (x := x) 12 4096 rfl (4 : Int32) 4 (by decide) (by decide) (by omega)).mpr (by omega) : (sh x 12) < (4 : Int32))).1 (by decide) (by decide) (ob' C 74 d36_73 rfl rfl (ob' C 75 d36_74 rfl rfl (oe' C 76 (1 : Int32) d36_75 rfl (by decide) (ok' C 77 (0 : Int32) d36_76 rfl ((sh_ushr x 12 (1 : Int32) 1 (by decide)).trans (sh_lit (x := x) 13 8192 rfl 0 (by omega) (by decide))) ?_))))
    refine ow' C 78 (19 : Int32) d36_77 rfl (by decide) (op' C d36_78 rfl (by decide) (by decide) ?_)
    exact ⟨(19 : Int32), rfl, rfl, (Bl.mk x _ 12 (by decide) (by decide) hb.1 hb.2)⟩
  · skip
    refine ob' C 1 d36_0 rfl rfl (on' C (pc' := 15) d36_1 (tlt (pos_uN.mpr ⟨by omega, by omega⟩ : (0 : Int32) < x)).2.2.1 (by decide) (by decide) (om' C 17 (31 : Int32) d36_15 rfl (by decide) (oh' C 18 (Ls' := #[.val (.int x), .val (.int 31)]) d36_17 rfl rfl (ob' C 19 d36_18 rfl rfl ?_))))
    refine ov' C 22 (v := (65536 : Int32)) d36_19 rfl (hq hw 107 rfl) (oj' C (pc' := 33) d36_22 (tlt ((lt_lit (x := x) (c := (65536 : Int32)) (by omega) (by decide)).mpr ((show uN (65536 : Int32) = 65536 by decide).symm ▸ (by omega)) : x < (65536 : Int32))).1 (by decide) (by decide) (ob' C 34 d36_33 rfl rfl (ox' C 37 (256 : Int32) d36_34 rfl (by decide) (ol' C 40 d36_37 rfl (flt (fun z => absurd ((show uN (256 : Int32) = 256 by decide) ▸ (lt_lit (x := x) (c := (256 : Int32)) (by omega) (by decide)).mp z : uN x < 256) (by omega) : ¬ (x < (256 : Int32)))).1 ?_))))
    refine oo' C 43 (Ls' := #[.val (.int x), .val (.int 23)]) (-8 : Int32) d36_40 rfl (by decide) rfl rfl (ob' C 44 d36_43 rfl rfl (om' C 46 (8 : Int32) d36_44 rfl (by decide) (ok' C 47 (sh x 8) d36_46 rfl (ushr_sh x (8 : Int32) 8 (by decide)) (oh' C 48 (Ls' := #[.val (.int (sh x 8)), .val (.int 23)]) d36_47 rfl rfl ?_))))
    refine ob' C 49 d36_48 rfl rfl (om' C 51 (16 : Int32) d36_49 rfl (by decide) (ol' C 54 d36_51 rfl (flt (fun z => absurd ((sh_lt (x := x) 8 256 rfl (16 : Int32) 16 (by decide) (by decide) (by omega)).mp z) (by omega) : ¬ ((sh x 8) < (16 : Int32)))).1 (oo' C 57 (Ls' := #[.val (.int (sh x 8)), .val (.int 19)]) (-4 : Int32) d36_54 rfl (by decide) rfl rfl (ob' C 58 d36_57 rfl rfl ?_))))
    refine oe' C 59 (4 : Int32) d36_58 rfl (by decide) (ok' C 60 (sh x 12) d36_59 rfl (sh_ushr x 8 (4 : Int32) 4 (by decide)) (oh' C 61 (Ls' := #[.val (.int (sh x 12)), .val (.int 19)]) d36_60 rfl rfl (ob' C 62 d36_61 rfl rfl (oe' C 63 (4 : Int32) d36_62 rfl (by decide) ?_))))
    refine oj' C (pc' := 73) d36_63 (tlt ((sh_lt (x := x) 12 4096 rfl (4 : Int32) 4 (by decide) (by decide) (by omega)).mpr (by omega) : (sh x 12) < (4 : Int32))).1 (by decide) (by decide) (ob' C 74 d36_73 rfl rfl (ob' C 75 d36_74 rfl rfl (oe' C 76 (1 : Int32) d36_75 rfl (by decide) (ok' C 77 (1 : Int32) d36_76 rfl ((sh_ushr x 12 (1 : Int32) 1 (by decide)).trans (sh_lit (x := x) 13 8192 rfl 1 (by omega) (by decide))) ?_))))
    refine ow' C 78 (18 : Int32) d36_77 rfl (by decide) (op' C d36_78 rfl (by decide) (by decide) ?_)
    exact ⟨(18 : Int32), rfl, rfl, (Bl.mk x _ 13 (by decide) (by decide) hb.1 hb.2)⟩
  · skip
    refine ob' C 1 d36_0 rfl rfl (on' C (pc' := 15) d36_1 (tlt (pos_uN.mpr ⟨by omega, by omega⟩ : (0 : Int32) < x)).2.2.1 (by decide) (by decide) (om' C 17 (31 : Int32) d36_15 rfl (by decide) (oh' C 18 (Ls' := #[.val (.int x), .val (.int 31)]) d36_17 rfl rfl (ob' C 19 d36_18 rfl rfl ?_))))
    refine ov' C 22 (v := (65536 : Int32)) d36_19 rfl (hq hw 107 rfl) (oj' C (pc' := 33) d36_22 (tlt ((lt_lit (x := x) (c := (65536 : Int32)) (by omega) (by decide)).mpr ((show uN (65536 : Int32) = 65536 by decide).symm ▸ (by omega)) : x < (65536 : Int32))).1 (by decide) (by decide) (ob' C 34 d36_33 rfl rfl (ox' C 37 (256 : Int32) d36_34 rfl (by decide) (ol' C 40 d36_37 rfl (flt (fun z => absurd ((show uN (256 : Int32) = 256 by decide) ▸ (lt_lit (x := x) (c := (256 : Int32)) (by omega) (by decide)).mp z : uN x < 256) (by omega) : ¬ (x < (256 : Int32)))).1 ?_))))
    refine oo' C 43 (Ls' := #[.val (.int x), .val (.int 23)]) (-8 : Int32) d36_40 rfl (by decide) rfl rfl (ob' C 44 d36_43 rfl rfl (om' C 46 (8 : Int32) d36_44 rfl (by decide) (ok' C 47 (sh x 8) d36_46 rfl (ushr_sh x (8 : Int32) 8 (by decide)) (oh' C 48 (Ls' := #[.val (.int (sh x 8)), .val (.int 23)]) d36_47 rfl rfl ?_))))
    refine ob' C 49 d36_48 rfl rfl (om' C 51 (16 : Int32) d36_49 rfl (by decide) (ol' C 54 d36_51 rfl (flt (fun z => absurd ((sh_lt (x := x) 8 256 rfl (16 : Int32) 16 (by decide) (by decide) (by omega)).mp z) (by omega) : ¬ ((sh x 8) < (16 : Int32)))).1 (oo' C 57 (Ls' := #[.val (.int (sh x 8)), .val (.int 19)]) (-4 : Int32) d36_54 rfl (by decide) rfl rfl (ob' C 58 d36_57 rfl rfl ?_))))
    refine oe' C 59 (4 : Int32) d36_58 rfl (by decide) (ok' C 60 (sh x 12) d36_59 rfl (sh_ushr x 8 (4 : Int32) 4 (by decide)) (oh' C 61 (Ls' := #[.val (.int (sh x 12)), .val (.int 19)]) d36_60 rfl rfl (ob' C 62 d36_61 rfl rfl (oe' C 63 (4 : Int32) d36_62 rfl (by decide) ?_))))
    refine ol' C 66 d36_63 rfl (flt (fun z => absurd ((sh_lt (x := x) 12 4096 rfl (4 : Int32) 4 (by decide) (by decide) (by omega)).mp z) (by omega) : ¬ ((sh x 12) < (4 : Int32)))).1 (oo' C 69 (Ls' := #[.val (.int (sh x 12)), .val (.int 17)]) (-2 : Int32) d36_66 rfl (by decide) rfl rfl (ob' C 70 d36_69 rfl rfl (oe' C 71 (2 : Int32) d36_70 rfl (by decide) (ok' C 72 (sh x 14) d36_71 rfl (sh_ushr x 12 (2 : Int32) 2 (by decide)) ?_))))
    refine oh' C 73 (Ls' := #[.val (.int (sh x 14)), .val (.int 17)]) d36_72 rfl rfl (ob' C 74 d36_73 rfl rfl (ob' C 75 d36_74 rfl rfl (oe' C 76 (1 : Int32) d36_75 rfl (by decide) (ok' C 77 (0 : Int32) d36_76 rfl ((sh_ushr x 14 (1 : Int32) 1 (by decide)).trans (sh_lit (x := x) 15 32768 rfl 0 (by omega) (by decide))) ?_))))
    refine ow' C 78 (17 : Int32) d36_77 rfl (by decide) (op' C d36_78 rfl (by decide) (by decide) ?_)
    exact ⟨(17 : Int32), rfl, rfl, (Bl.mk x _ 14 (by decide) (by decide) hb.1 hb.2)⟩
  · skip
    refine ob' C 1 d36_0 rfl rfl (on' C (pc' := 15) d36_1 (tlt (pos_uN.mpr ⟨by omega, by omega⟩ : (0 : Int32) < x)).2.2.1 (by decide) (by decide) (om' C 17 (31 : Int32) d36_15 rfl (by decide) (oh' C 18 (Ls' := #[.val (.int x), .val (.int 31)]) d36_17 rfl rfl (ob' C 19 d36_18 rfl rfl ?_))))
    refine ov' C 22 (v := (65536 : Int32)) d36_19 rfl (hq hw 107 rfl) (oj' C (pc' := 33) d36_22 (tlt ((lt_lit (x := x) (c := (65536 : Int32)) (by omega) (by decide)).mpr ((show uN (65536 : Int32) = 65536 by decide).symm ▸ (by omega)) : x < (65536 : Int32))).1 (by decide) (by decide) (ob' C 34 d36_33 rfl rfl (ox' C 37 (256 : Int32) d36_34 rfl (by decide) (ol' C 40 d36_37 rfl (flt (fun z => absurd ((show uN (256 : Int32) = 256 by decide) ▸ (lt_lit (x := x) (c := (256 : Int32)) (by omega) (by decide)).mp z : uN x < 256) (by omega) : ¬ (x < (256 : Int32)))).1 ?_))))
    refine oo' C 43 (Ls' := #[.val (.int x), .val (.int 23)]) (-8 : Int32) d36_40 rfl (by decide) rfl rfl (ob' C 44 d36_43 rfl rfl (om' C 46 (8 : Int32) d36_44 rfl (by decide) (ok' C 47 (sh x 8) d36_46 rfl (ushr_sh x (8 : Int32) 8 (by decide)) (oh' C 48 (Ls' := #[.val (.int (sh x 8)), .val (.int 23)]) d36_47 rfl rfl ?_))))
    refine ob' C 49 d36_48 rfl rfl (om' C 51 (16 : Int32) d36_49 rfl (by decide) (ol' C 54 d36_51 rfl (flt (fun z => absurd ((sh_lt (x := x) 8 256 rfl (16 : Int32) 16 (by decide) (by decide) (by omega)).mp z) (by omega) : ¬ ((sh x 8) < (16 : Int32)))).1 (oo' C 57 (Ls' := #[.val (.int (sh x 8)), .val (.int 19)]) (-4 : Int32) d36_54 rfl (by decide) rfl rfl (ob' C 58 d36_57 rfl rfl ?_))))
    refine oe' C 59 (4 : Int32) d36_58 rfl (by decide) (ok' C 60 (sh x 12) d36_59 rfl (sh_ushr x 8 (4 : Int32) 4 (by decide)) (oh' C 61 (Ls' := #[.val (.int (sh x 12)), .val (.int 19)]) d36_60 rfl rfl (ob' C 62 d36_61 rfl rfl (oe' C 63 (4 : Int32) d36_62 rfl (by decide) ?_))))
    refine ol' C 66 d36_63 rfl (flt (fun z => absurd ((sh_lt (x := x) 12 4096 rfl (4 : Int32) 4 (by decide) (by decide) (by omega)).mp z) (by omega) : ¬ ((sh x 12) < (4 : Int32)))).1 (oo' C 69 (Ls' := #[.val (.int (sh x 12)), .val (.int 17)]) (-2 : Int32) d36_66 rfl (by decide) rfl rfl (ob' C 70 d36_69 rfl rfl (oe' C 71 (2 : Int32) d36_70 rfl (by decide) (ok' C 72 (sh x 14) d36_71 rfl (sh_ushr x 12 (2 : Int32) 2 (by decide)) ?_))))
    refine oh' C 73 (Ls' := #[.val (.int (sh x 14)), .val (.int 17)]) d36_72 rfl rfl (ob' C 74 d36_73 rfl rfl (ob' C 75 d36_74 rfl rfl (oe' C 76 (1 : Int32) d36_75 rfl (by decide) (ok' C 77 (1 : Int32) d36_76 rfl ((sh_ushr x 14 (1 : Int32) 1 (by decide)).trans (sh_lit (x := x) 15 32768 rfl 1 (by omega) (by decide))) ?_))))
    refine ow' C 78 (16 : Int32) d36_77 rfl (by decide) (op' C d36_78 rfl (by decide) (by decide) ?_)
    exact ⟨(16 : Int32), rfl, rfl, (Bl.mk x _ 15 (by decide) (by decide) hb.1 hb.2)⟩
  · skip
    refine ob' C 1 d36_0 rfl rfl (on' C (pc' := 15) d36_1 (tlt (pos_uN.mpr ⟨by omega, by omega⟩ : (0 : Int32) < x)).2.2.1 (by decide) (by decide) (om' C 17 (31 : Int32) d36_15 rfl (by decide) (oh' C 18 (Ls' := #[.val (.int x), .val (.int 31)]) d36_17 rfl rfl (ob' C 19 d36_18 rfl rfl ?_))))
    refine ov' C 22 (v := (65536 : Int32)) d36_19 rfl (hq hw 107 rfl) (ol' C 25 d36_22 rfl (flt (fun z => absurd ((show uN (65536 : Int32) = 65536 by decide) ▸ (lt_lit (x := x) (c := (65536 : Int32)) (by omega) (by decide)).mp z : uN x < 65536) (by omega) : ¬ (x < (65536 : Int32)))).1 (oo' C 28 (Ls' := #[.val (.int x), .val (.int 15)]) (-16 : Int32) d36_25 rfl (by decide) rfl rfl (ob' C 29 d36_28 rfl rfl (om' C 31 (16 : Int32) d36_29 rfl (by decide) ?_))))
    refine ok' C 32 (sh x 16) d36_31 rfl (ushr_sh x (16 : Int32) 16 (by decide)) (oh' C 33 (Ls' := #[.val (.int (sh x 16)), .val (.int 15)]) d36_32 rfl rfl (ob' C 34 d36_33 rfl rfl (ox' C 37 (256 : Int32) d36_34 rfl (by decide) (oj' C (pc' := 48) d36_37 (tlt ((sh_lt (x := x) 16 65536 rfl (256 : Int32) 256 (by decide) (by decide) (by omega)).mpr (by omega) : (sh x 16) < (256 : Int32))).1 (by decide) (by decide) ?_))))
    refine ob' C 49 d36_48 rfl rfl (om' C 51 (16 : Int32) d36_49 rfl (by decide) (oj' C (pc' := 61) d36_51 (tlt ((sh_lt (x := x) 16 65536 rfl (16 : Int32) 16 (by decide) (by decide) (by omega)).mpr (by omega) : (sh x 16) < (16 : Int32))).1 (by decide) (by decide) (ob' C 62 d36_61 rfl rfl (oe' C 63 (4 : Int32) d36_62 rfl (by decide) ?_))))
    refine oj' C (pc' := 73) d36_63 (tlt ((sh_lt (x := x) 16 65536 rfl (4 : Int32) 4 (by decide) (by decide) (by omega)).mpr (by omega) : (sh x 16) < (4 : Int32))).1 (by decide) (by decide) (ob' C 74 d36_73 rfl rfl (ob' C 75 d36_74 rfl rfl (oe' C 76 (1 : Int32) d36_75 rfl (by decide) (ok' C 77 (0 : Int32) d36_76 rfl ((sh_ushr x 16 (1 : Int32) 1 (by decide)).trans (sh_lit (x := x) 17 131072 rfl 0 (by omega) (by decide))) ?_))))
    refine ow' C 78 (15 : Int32) d36_77 rfl (by decide) (op' C d36_78 rfl (by decide) (by decide) ?_)
    exact ⟨(15 : Int32), rfl, rfl, (Bl.mk x _ 16 (by decide) (by decide) hb.1 hb.2)⟩
  · skip
    refine ob' C 1 d36_0 rfl rfl (on' C (pc' := 15) d36_1 (tlt (pos_uN.mpr ⟨by omega, by omega⟩ : (0 : Int32) < x)).2.2.1 (by decide) (by decide) (om' C 17 (31 : Int32) d36_15 rfl (by decide) (oh' C 18 (Ls' := #[.val (.int x), .val (.int 31)]) d36_17 rfl rfl (ob' C 19 d36_18 rfl rfl ?_))))
    refine ov' C 22 (v := (65536 : Int32)) d36_19 rfl (hq hw 107 rfl) (ol' C 25 d36_22 rfl (flt (fun z => absurd ((show uN (65536 : Int32) = 65536 by decide) ▸ (lt_lit (x := x) (c := (65536 : Int32)) (by omega) (by decide)).mp z : uN x < 65536) (by omega) : ¬ (x < (65536 : Int32)))).1 (oo' C 28 (Ls' := #[.val (.int x), .val (.int 15)]) (-16 : Int32) d36_25 rfl (by decide) rfl rfl (ob' C 29 d36_28 rfl rfl (om' C 31 (16 : Int32) d36_29 rfl (by decide) ?_))))
    refine ok' C 32 (sh x 16) d36_31 rfl (ushr_sh x (16 : Int32) 16 (by decide)) (oh' C 33 (Ls' := #[.val (.int (sh x 16)), .val (.int 15)]) d36_32 rfl rfl (ob' C 34 d36_33 rfl rfl (ox' C 37 (256 : Int32) d36_34 rfl (by decide) (oj' C (pc' := 48) d36_37 (tlt ((sh_lt (x := x) 16 65536 rfl (256 : Int32) 256 (by decide) (by decide) (by omega)).mpr (by omega) : (sh x 16) < (256 : Int32))).1 (by decide) (by decide) ?_))))
    refine ob' C 49 d36_48 rfl rfl (om' C 51 (16 : Int32) d36_49 rfl (by decide) (oj' C (pc' := 61) d36_51 (tlt ((sh_lt (x := x) 16 65536 rfl (16 : Int32) 16 (by decide) (by decide) (by omega)).mpr (by omega) : (sh x 16) < (16 : Int32))).1 (by decide) (by decide) (ob' C 62 d36_61 rfl rfl (oe' C 63 (4 : Int32) d36_62 rfl (by decide) ?_))))
    refine oj' C (pc' := 73) d36_63 (tlt ((sh_lt (x := x) 16 65536 rfl (4 : Int32) 4 (by decide) (by decide) (by omega)).mpr (by omega) : (sh x 16) < (4 : Int32))).1 (by decide) (by decide) (ob' C 74 d36_73 rfl rfl (ob' C 75 d36_74 rfl rfl (oe' C 76 (1 : Int32) d36_75 rfl (by decide) (ok' C 77 (1 : Int32) d36_76 rfl ((sh_ushr x 16 (1 : Int32) 1 (by decide)).trans (sh_lit (x := x) 17 131072 rfl 1 (by omega) (by decide))) ?_))))
    refine ow' C 78 (14 : Int32) d36_77 rfl (by decide) (op' C d36_78 rfl (by decide) (by decide) ?_)
    exact ⟨(14 : Int32), rfl, rfl, (Bl.mk x _ 17 (by decide) (by decide) hb.1 hb.2)⟩
  · skip
    refine ob' C 1 d36_0 rfl rfl (on' C (pc' := 15) d36_1 (tlt (pos_uN.mpr ⟨by omega, by omega⟩ : (0 : Int32) < x)).2.2.1 (by decide) (by decide) (om' C 17 (31 : Int32) d36_15 rfl (by decide) (oh' C 18 (Ls' := #[.val (.int x), .val (.int 31)]) d36_17 rfl rfl (ob' C 19 d36_18 rfl rfl ?_))))
    refine ov' C 22 (v := (65536 : Int32)) d36_19 rfl (hq hw 107 rfl) (ol' C 25 d36_22 rfl (flt (fun z => absurd ((show uN (65536 : Int32) = 65536 by decide) ▸ (lt_lit (x := x) (c := (65536 : Int32)) (by omega) (by decide)).mp z : uN x < 65536) (by omega) : ¬ (x < (65536 : Int32)))).1 (oo' C 28 (Ls' := #[.val (.int x), .val (.int 15)]) (-16 : Int32) d36_25 rfl (by decide) rfl rfl (ob' C 29 d36_28 rfl rfl (om' C 31 (16 : Int32) d36_29 rfl (by decide) ?_))))
    refine ok' C 32 (sh x 16) d36_31 rfl (ushr_sh x (16 : Int32) 16 (by decide)) (oh' C 33 (Ls' := #[.val (.int (sh x 16)), .val (.int 15)]) d36_32 rfl rfl (ob' C 34 d36_33 rfl rfl (ox' C 37 (256 : Int32) d36_34 rfl (by decide) (oj' C (pc' := 48) d36_37 (tlt ((sh_lt (x := x) 16 65536 rfl (256 : Int32) 256 (by decide) (by decide) (by omega)).mpr (by omega) : (sh x 16) < (256 : Int32))).1 (by decide) (by decide) ?_))))
    refine ob' C 49 d36_48 rfl rfl (om' C 51 (16 : Int32) d36_49 rfl (by decide) (oj' C (pc' := 61) d36_51 (tlt ((sh_lt (x := x) 16 65536 rfl (16 : Int32) 16 (by decide) (by decide) (by omega)).mpr (by omega) : (sh x 16) < (16 : Int32))).1 (by decide) (by decide) (ob' C 62 d36_61 rfl rfl (oe' C 63 (4 : Int32) d36_62 rfl (by decide) ?_))))
    refine ol' C 66 d36_63 rfl (flt (fun z => absurd ((sh_lt (x := x) 16 65536 rfl (4 : Int32) 4 (by decide) (by decide) (by omega)).mp z) (by omega) : ¬ ((sh x 16) < (4 : Int32)))).1 (oo' C 69 (Ls' := #[.val (.int (sh x 16)), .val (.int 13)]) (-2 : Int32) d36_66 rfl (by decide) rfl rfl (ob' C 70 d36_69 rfl rfl (oe' C 71 (2 : Int32) d36_70 rfl (by decide) (ok' C 72 (sh x 18) d36_71 rfl (sh_ushr x 16 (2 : Int32) 2 (by decide)) ?_))))
    refine oh' C 73 (Ls' := #[.val (.int (sh x 18)), .val (.int 13)]) d36_72 rfl rfl (ob' C 74 d36_73 rfl rfl (ob' C 75 d36_74 rfl rfl (oe' C 76 (1 : Int32) d36_75 rfl (by decide) (ok' C 77 (0 : Int32) d36_76 rfl ((sh_ushr x 18 (1 : Int32) 1 (by decide)).trans (sh_lit (x := x) 19 524288 rfl 0 (by omega) (by decide))) ?_))))
    refine ow' C 78 (13 : Int32) d36_77 rfl (by decide) (op' C d36_78 rfl (by decide) (by decide) ?_)
    exact ⟨(13 : Int32), rfl, rfl, (Bl.mk x _ 18 (by decide) (by decide) hb.1 hb.2)⟩
  · skip
    refine ob' C 1 d36_0 rfl rfl (on' C (pc' := 15) d36_1 (tlt (pos_uN.mpr ⟨by omega, by omega⟩ : (0 : Int32) < x)).2.2.1 (by decide) (by decide) (om' C 17 (31 : Int32) d36_15 rfl (by decide) (oh' C 18 (Ls' := #[.val (.int x), .val (.int 31)]) d36_17 rfl rfl (ob' C 19 d36_18 rfl rfl ?_))))
    refine ov' C 22 (v := (65536 : Int32)) d36_19 rfl (hq hw 107 rfl) (ol' C 25 d36_22 rfl (flt (fun z => absurd ((show uN (65536 : Int32) = 65536 by decide) ▸ (lt_lit (x := x) (c := (65536 : Int32)) (by omega) (by decide)).mp z : uN x < 65536) (by omega) : ¬ (x < (65536 : Int32)))).1 (oo' C 28 (Ls' := #[.val (.int x), .val (.int 15)]) (-16 : Int32) d36_25 rfl (by decide) rfl rfl (ob' C 29 d36_28 rfl rfl (om' C 31 (16 : Int32) d36_29 rfl (by decide) ?_))))
    refine ok' C 32 (sh x 16) d36_31 rfl (ushr_sh x (16 : Int32) 16 (by decide)) (oh' C 33 (Ls' := #[.val (.int (sh x 16)), .val (.int 15)]) d36_32 rfl rfl (ob' C 34 d36_33 rfl rfl (ox' C 37 (256 : Int32) d36_34 rfl (by decide) (oj' C (pc' := 48) d36_37 (tlt ((sh_lt (x := x) 16 65536 rfl (256 : Int32) 256 (by decide) (by decide) (by omega)).mpr (by omega) : (sh x 16) < (256 : Int32))).1 (by decide) (by decide) ?_))))
    refine ob' C 49 d36_48 rfl rfl (om' C 51 (16 : Int32) d36_49 rfl (by decide) (oj' C (pc' := 61) d36_51 (tlt ((sh_lt (x := x) 16 65536 rfl (16 : Int32) 16 (by decide) (by decide) (by omega)).mpr (by omega) : (sh x 16) < (16 : Int32))).1 (by decide) (by decide) (ob' C 62 d36_61 rfl rfl (oe' C 63 (4 : Int32) d36_62 rfl (by decide) ?_))))
    refine ol' C 66 d36_63 rfl (flt (fun z => absurd ((sh_lt (x := x) 16 65536 rfl (4 : Int32) 4 (by decide) (by decide) (by omega)).mp z) (by omega) : ¬ ((sh x 16) < (4 : Int32)))).1 (oo' C 69 (Ls' := #[.val (.int (sh x 16)), .val (.int 13)]) (-2 : Int32) d36_66 rfl (by decide) rfl rfl (ob' C 70 d36_69 rfl rfl (oe' C 71 (2 : Int32) d36_70 rfl (by decide) (ok' C 72 (sh x 18) d36_71 rfl (sh_ushr x 16 (2 : Int32) 2 (by decide)) ?_))))
    refine oh' C 73 (Ls' := #[.val (.int (sh x 18)), .val (.int 13)]) d36_72 rfl rfl (ob' C 74 d36_73 rfl rfl (ob' C 75 d36_74 rfl rfl (oe' C 76 (1 : Int32) d36_75 rfl (by decide) (ok' C 77 (1 : Int32) d36_76 rfl ((sh_ushr x 18 (1 : Int32) 1 (by decide)).trans (sh_lit (x := x) 19 524288 rfl 1 (by omega) (by decide))) ?_))))
    refine ow' C 78 (12 : Int32) d36_77 rfl (by decide) (op' C d36_78 rfl (by decide) (by decide) ?_)
    exact ⟨(12 : Int32), rfl, rfl, (Bl.mk x _ 19 (by decide) (by decide) hb.1 hb.2)⟩
  · skip
    refine ob' C 1 d36_0 rfl rfl (on' C (pc' := 15) d36_1 (tlt (pos_uN.mpr ⟨by omega, by omega⟩ : (0 : Int32) < x)).2.2.1 (by decide) (by decide) (om' C 17 (31 : Int32) d36_15 rfl (by decide) (oh' C 18 (Ls' := #[.val (.int x), .val (.int 31)]) d36_17 rfl rfl (ob' C 19 d36_18 rfl rfl ?_))))
    refine ov' C 22 (v := (65536 : Int32)) d36_19 rfl (hq hw 107 rfl) (ol' C 25 d36_22 rfl (flt (fun z => absurd ((show uN (65536 : Int32) = 65536 by decide) ▸ (lt_lit (x := x) (c := (65536 : Int32)) (by omega) (by decide)).mp z : uN x < 65536) (by omega) : ¬ (x < (65536 : Int32)))).1 (oo' C 28 (Ls' := #[.val (.int x), .val (.int 15)]) (-16 : Int32) d36_25 rfl (by decide) rfl rfl (ob' C 29 d36_28 rfl rfl (om' C 31 (16 : Int32) d36_29 rfl (by decide) ?_))))
    refine ok' C 32 (sh x 16) d36_31 rfl (ushr_sh x (16 : Int32) 16 (by decide)) (oh' C 33 (Ls' := #[.val (.int (sh x 16)), .val (.int 15)]) d36_32 rfl rfl (ob' C 34 d36_33 rfl rfl (ox' C 37 (256 : Int32) d36_34 rfl (by decide) (oj' C (pc' := 48) d36_37 (tlt ((sh_lt (x := x) 16 65536 rfl (256 : Int32) 256 (by decide) (by decide) (by omega)).mpr (by omega) : (sh x 16) < (256 : Int32))).1 (by decide) (by decide) ?_))))
    refine ob' C 49 d36_48 rfl rfl (om' C 51 (16 : Int32) d36_49 rfl (by decide) (ol' C 54 d36_51 rfl (flt (fun z => absurd ((sh_lt (x := x) 16 65536 rfl (16 : Int32) 16 (by decide) (by decide) (by omega)).mp z) (by omega) : ¬ ((sh x 16) < (16 : Int32)))).1 (oo' C 57 (Ls' := #[.val (.int (sh x 16)), .val (.int 11)]) (-4 : Int32) d36_54 rfl (by decide) rfl rfl (ob' C 58 d36_57 rfl rfl ?_))))
    refine oe' C 59 (4 : Int32) d36_58 rfl (by decide) (ok' C 60 (sh x 20) d36_59 rfl (sh_ushr x 16 (4 : Int32) 4 (by decide)) (oh' C 61 (Ls' := #[.val (.int (sh x 20)), .val (.int 11)]) d36_60 rfl rfl (ob' C 62 d36_61 rfl rfl (oe' C 63 (4 : Int32) d36_62 rfl (by decide) ?_))))
    refine oj' C (pc' := 73) d36_63 (tlt ((sh_lt (x := x) 20 1048576 rfl (4 : Int32) 4 (by decide) (by decide) (by omega)).mpr (by omega) : (sh x 20) < (4 : Int32))).1 (by decide) (by decide) (ob' C 74 d36_73 rfl rfl (ob' C 75 d36_74 rfl rfl (oe' C 76 (1 : Int32) d36_75 rfl (by decide) (ok' C 77 (0 : Int32) d36_76 rfl ((sh_ushr x 20 (1 : Int32) 1 (by decide)).trans (sh_lit (x := x) 21 2097152 rfl 0 (by omega) (by decide))) ?_))))
    refine ow' C 78 (11 : Int32) d36_77 rfl (by decide) (op' C d36_78 rfl (by decide) (by decide) ?_)
    exact ⟨(11 : Int32), rfl, rfl, (Bl.mk x _ 20 (by decide) (by decide) hb.1 hb.2)⟩
  · skip
    refine ob' C 1 d36_0 rfl rfl (on' C (pc' := 15) d36_1 (tlt (pos_uN.mpr ⟨by omega, by omega⟩ : (0 : Int32) < x)).2.2.1 (by decide) (by decide) (om' C 17 (31 : Int32) d36_15 rfl (by decide) (oh' C 18 (Ls' := #[.val (.int x), .val (.int 31)]) d36_17 rfl rfl (ob' C 19 d36_18 rfl rfl ?_))))
    refine ov' C 22 (v := (65536 : Int32)) d36_19 rfl (hq hw 107 rfl) (ol' C 25 d36_22 rfl (flt (fun z => absurd ((show uN (65536 : Int32) = 65536 by decide) ▸ (lt_lit (x := x) (c := (65536 : Int32)) (by omega) (by decide)).mp z : uN x < 65536) (by omega) : ¬ (x < (65536 : Int32)))).1 (oo' C 28 (Ls' := #[.val (.int x), .val (.int 15)]) (-16 : Int32) d36_25 rfl (by decide) rfl rfl (ob' C 29 d36_28 rfl rfl (om' C 31 (16 : Int32) d36_29 rfl (by decide) ?_))))
    refine ok' C 32 (sh x 16) d36_31 rfl (ushr_sh x (16 : Int32) 16 (by decide)) (oh' C 33 (Ls' := #[.val (.int (sh x 16)), .val (.int 15)]) d36_32 rfl rfl (ob' C 34 d36_33 rfl rfl (ox' C 37 (256 : Int32) d36_34 rfl (by decide) (oj' C (pc' := 48) d36_37 (tlt ((sh_lt (x := x) 16 65536 rfl (256 : Int32) 256 (by decide) (by decide) (by omega)).mpr (by omega) : (sh x 16) < (256 : Int32))).1 (by decide) (by decide) ?_))))
    refine ob' C 49 d36_48 rfl rfl (om' C 51 (16 : Int32) d36_49 rfl (by decide) (ol' C 54 d36_51 rfl (flt (fun z => absurd ((sh_lt (x := x) 16 65536 rfl (16 : Int32) 16 (by decide) (by decide) (by omega)).mp z) (by omega) : ¬ ((sh x 16) < (16 : Int32)))).1 (oo' C 57 (Ls' := #[.val (.int (sh x 16)), .val (.int 11)]) (-4 : Int32) d36_54 rfl (by decide) rfl rfl (ob' C 58 d36_57 rfl rfl ?_))))
    refine oe' C 59 (4 : Int32) d36_58 rfl (by decide) (ok' C 60 (sh x 20) d36_59 rfl (sh_ushr x 16 (4 : Int32) 4 (by decide)) (oh' C 61 (Ls' := #[.val (.int (sh x 20)), .val (.int 11)]) d36_60 rfl rfl (ob' C 62 d36_61 rfl rfl (oe' C 63 (4 : Int32) d36_62 rfl (by decide) ?_))))
    refine oj' C (pc' := 73) d36_63 (tlt ((sh_lt (x := x) 20 1048576 rfl (4 : Int32) 4 (by decide) (by decide) (by omega)).mpr (by omega) : (sh x 20) < (4 : Int32))).1 (by decide) (by decide) (ob' C 74 d36_73 rfl rfl (ob' C 75 d36_74 rfl rfl (oe' C 76 (1 : Int32) d36_75 rfl (by decide) (ok' C 77 (1 : Int32) d36_76 rfl ((sh_ushr x 20 (1 : Int32) 1 (by decide)).trans (sh_lit (x := x) 21 2097152 rfl 1 (by omega) (by decide))) ?_))))
    refine ow' C 78 (10 : Int32) d36_77 rfl (by decide) (op' C d36_78 rfl (by decide) (by decide) ?_)
    exact ⟨(10 : Int32), rfl, rfl, (Bl.mk x _ 21 (by decide) (by decide) hb.1 hb.2)⟩
  · skip
    refine ob' C 1 d36_0 rfl rfl (on' C (pc' := 15) d36_1 (tlt (pos_uN.mpr ⟨by omega, by omega⟩ : (0 : Int32) < x)).2.2.1 (by decide) (by decide) (om' C 17 (31 : Int32) d36_15 rfl (by decide) (oh' C 18 (Ls' := #[.val (.int x), .val (.int 31)]) d36_17 rfl rfl (ob' C 19 d36_18 rfl rfl ?_))))
    refine ov' C 22 (v := (65536 : Int32)) d36_19 rfl (hq hw 107 rfl) (ol' C 25 d36_22 rfl (flt (fun z => absurd ((show uN (65536 : Int32) = 65536 by decide) ▸ (lt_lit (x := x) (c := (65536 : Int32)) (by omega) (by decide)).mp z : uN x < 65536) (by omega) : ¬ (x < (65536 : Int32)))).1 (oo' C 28 (Ls' := #[.val (.int x), .val (.int 15)]) (-16 : Int32) d36_25 rfl (by decide) rfl rfl (ob' C 29 d36_28 rfl rfl (om' C 31 (16 : Int32) d36_29 rfl (by decide) ?_))))
    refine ok' C 32 (sh x 16) d36_31 rfl (ushr_sh x (16 : Int32) 16 (by decide)) (oh' C 33 (Ls' := #[.val (.int (sh x 16)), .val (.int 15)]) d36_32 rfl rfl (ob' C 34 d36_33 rfl rfl (ox' C 37 (256 : Int32) d36_34 rfl (by decide) (oj' C (pc' := 48) d36_37 (tlt ((sh_lt (x := x) 16 65536 rfl (256 : Int32) 256 (by decide) (by decide) (by omega)).mpr (by omega) : (sh x 16) < (256 : Int32))).1 (by decide) (by decide) ?_))))
    refine ob' C 49 d36_48 rfl rfl (om' C 51 (16 : Int32) d36_49 rfl (by decide) (ol' C 54 d36_51 rfl (flt (fun z => absurd ((sh_lt (x := x) 16 65536 rfl (16 : Int32) 16 (by decide) (by decide) (by omega)).mp z) (by omega) : ¬ ((sh x 16) < (16 : Int32)))).1 (oo' C 57 (Ls' := #[.val (.int (sh x 16)), .val (.int 11)]) (-4 : Int32) d36_54 rfl (by decide) rfl rfl (ob' C 58 d36_57 rfl rfl ?_))))
    refine oe' C 59 (4 : Int32) d36_58 rfl (by decide) (ok' C 60 (sh x 20) d36_59 rfl (sh_ushr x 16 (4 : Int32) 4 (by decide)) (oh' C 61 (Ls' := #[.val (.int (sh x 20)), .val (.int 11)]) d36_60 rfl rfl (ob' C 62 d36_61 rfl rfl (oe' C 63 (4 : Int32) d36_62 rfl (by decide) ?_))))
    refine ol' C 66 d36_63 rfl (flt (fun z => absurd ((sh_lt (x := x) 20 1048576 rfl (4 : Int32) 4 (by decide) (by decide) (by omega)).mp z) (by omega) : ¬ ((sh x 20) < (4 : Int32)))).1 (oo' C 69 (Ls' := #[.val (.int (sh x 20)), .val (.int 9)]) (-2 : Int32) d36_66 rfl (by decide) rfl rfl (ob' C 70 d36_69 rfl rfl (oe' C 71 (2 : Int32) d36_70 rfl (by decide) (ok' C 72 (sh x 22) d36_71 rfl (sh_ushr x 20 (2 : Int32) 2 (by decide)) ?_))))
    refine oh' C 73 (Ls' := #[.val (.int (sh x 22)), .val (.int 9)]) d36_72 rfl rfl (ob' C 74 d36_73 rfl rfl (ob' C 75 d36_74 rfl rfl (oe' C 76 (1 : Int32) d36_75 rfl (by decide) (ok' C 77 (0 : Int32) d36_76 rfl ((sh_ushr x 22 (1 : Int32) 1 (by decide)).trans (sh_lit (x := x) 23 8388608 rfl 0 (by omega) (by decide))) ?_))))
    refine ow' C 78 (9 : Int32) d36_77 rfl (by decide) (op' C d36_78 rfl (by decide) (by decide) ?_)
    exact ⟨(9 : Int32), rfl, rfl, (Bl.mk x _ 22 (by decide) (by decide) hb.1 hb.2)⟩
  · skip
    refine ob' C 1 d36_0 rfl rfl (on' C (pc' := 15) d36_1 (tlt (pos_uN.mpr ⟨by omega, by omega⟩ : (0 : Int32) < x)).2.2.1 (by decide) (by decide) (om' C 17 (31 : Int32) d36_15 rfl (by decide) (oh' C 18 (Ls' := #[.val (.int x), .val (.int 31)]) d36_17 rfl rfl (ob' C 19 d36_18 rfl rfl ?_))))
    refine ov' C 22 (v := (65536 : Int32)) d36_19 rfl (hq hw 107 rfl) (ol' C 25 d36_22 rfl (flt (fun z => absurd ((show uN (65536 : Int32) = 65536 by decide) ▸ (lt_lit (x := x) (c := (65536 : Int32)) (by omega) (by decide)).mp z : uN x < 65536) (by omega) : ¬ (x < (65536 : Int32)))).1 (oo' C 28 (Ls' := #[.val (.int x), .val (.int 15)]) (-16 : Int32) d36_25 rfl (by decide) rfl rfl (ob' C 29 d36_28 rfl rfl (om' C 31 (16 : Int32) d36_29 rfl (by decide) ?_))))
    refine ok' C 32 (sh x 16) d36_31 rfl (ushr_sh x (16 : Int32) 16 (by decide)) (oh' C 33 (Ls' := #[.val (.int (sh x 16)), .val (.int 15)]) d36_32 rfl rfl (ob' C 34 d36_33 rfl rfl (ox' C 37 (256 : Int32) d36_34 rfl (by decide) (oj' C (pc' := 48) d36_37 (tlt ((sh_lt (x := x) 16 65536 rfl (256 : Int32) 256 (by decide) (by decide) (by omega)).mpr (by omega) : (sh x 16) < (256 : Int32))).1 (by decide) (by decide) ?_))))
    refine ob' C 49 d36_48 rfl rfl (om' C 51 (16 : Int32) d36_49 rfl (by decide) (ol' C 54 d36_51 rfl (flt (fun z => absurd ((sh_lt (x := x) 16 65536 rfl (16 : Int32) 16 (by decide) (by decide) (by omega)).mp z) (by omega) : ¬ ((sh x 16) < (16 : Int32)))).1 (oo' C 57 (Ls' := #[.val (.int (sh x 16)), .val (.int 11)]) (-4 : Int32) d36_54 rfl (by decide) rfl rfl (ob' C 58 d36_57 rfl rfl ?_))))
    refine oe' C 59 (4 : Int32) d36_58 rfl (by decide) (ok' C 60 (sh x 20) d36_59 rfl (sh_ushr x 16 (4 : Int32) 4 (by decide)) (oh' C 61 (Ls' := #[.val (.int (sh x 20)), .val (.int 11)]) d36_60 rfl rfl (ob' C 62 d36_61 rfl rfl (oe' C 63 (4 : Int32) d36_62 rfl (by decide) ?_))))
    refine ol' C 66 d36_63 rfl (flt (fun z => absurd ((sh_lt (x := x) 20 1048576 rfl (4 : Int32) 4 (by decide) (by decide) (by omega)).mp z) (by omega) : ¬ ((sh x 20) < (4 : Int32)))).1 (oo' C 69 (Ls' := #[.val (.int (sh x 20)), .val (.int 9)]) (-2 : Int32) d36_66 rfl (by decide) rfl rfl (ob' C 70 d36_69 rfl rfl (oe' C 71 (2 : Int32) d36_70 rfl (by decide) (ok' C 72 (sh x 22) d36_71 rfl (sh_ushr x 20 (2 : Int32) 2 (by decide)) ?_))))
    refine oh' C 73 (Ls' := #[.val (.int (sh x 22)), .val (.int 9)]) d36_72 rfl rfl (ob' C 74 d36_73 rfl rfl (ob' C 75 d36_74 rfl rfl (oe' C 76 (1 : Int32) d36_75 rfl (by decide) (ok' C 77 (1 : Int32) d36_76 rfl ((sh_ushr x 22 (1 : Int32) 1 (by decide)).trans (sh_lit (x := x) 23 8388608 rfl 1 (by omega) (by decide))) ?_))))
    refine ow' C 78 (8 : Int32) d36_77 rfl (by decide) (op' C d36_78 rfl (by decide) (by decide) ?_)
    exact ⟨(8 : Int32), rfl, rfl, (Bl.mk x _ 23 (by decide) (by decide) hb.1 hb.2)⟩
  · skip
    refine ob' C 1 d36_0 rfl rfl (on' C (pc' := 15) d36_1 (tlt (pos_uN.mpr ⟨by omega, by omega⟩ : (0 : Int32) < x)).2.2.1 (by decide) (by decide) (om' C 17 (31 : Int32) d36_15 rfl (by decide) (oh' C 18 (Ls' := #[.val (.int x), .val (.int 31)]) d36_17 rfl rfl (ob' C 19 d36_18 rfl rfl ?_))))
    refine ov' C 22 (v := (65536 : Int32)) d36_19 rfl (hq hw 107 rfl) (ol' C 25 d36_22 rfl (flt (fun z => absurd ((show uN (65536 : Int32) = 65536 by decide) ▸ (lt_lit (x := x) (c := (65536 : Int32)) (by omega) (by decide)).mp z : uN x < 65536) (by omega) : ¬ (x < (65536 : Int32)))).1 (oo' C 28 (Ls' := #[.val (.int x), .val (.int 15)]) (-16 : Int32) d36_25 rfl (by decide) rfl rfl (ob' C 29 d36_28 rfl rfl (om' C 31 (16 : Int32) d36_29 rfl (by decide) ?_))))
    refine ok' C 32 (sh x 16) d36_31 rfl (ushr_sh x (16 : Int32) 16 (by decide)) (oh' C 33 (Ls' := #[.val (.int (sh x 16)), .val (.int 15)]) d36_32 rfl rfl (ob' C 34 d36_33 rfl rfl (ox' C 37 (256 : Int32) d36_34 rfl (by decide) (ol' C 40 d36_37 rfl (flt (fun z => absurd ((sh_lt (x := x) 16 65536 rfl (256 : Int32) 256 (by decide) (by decide) (by omega)).mp z) (by omega) : ¬ ((sh x 16) < (256 : Int32)))).1 ?_))))
    refine oo' C 43 (Ls' := #[.val (.int (sh x 16)), .val (.int 7)]) (-8 : Int32) d36_40 rfl (by decide) rfl rfl (ob' C 44 d36_43 rfl rfl (om' C 46 (8 : Int32) d36_44 rfl (by decide) (ok' C 47 (sh x 24) d36_46 rfl (sh_ushr x 16 (8 : Int32) 8 (by decide)) (oh' C 48 (Ls' := #[.val (.int (sh x 24)), .val (.int 7)]) d36_47 rfl rfl ?_))))
    refine ob' C 49 d36_48 rfl rfl (om' C 51 (16 : Int32) d36_49 rfl (by decide) (oj' C (pc' := 61) d36_51 (tlt ((sh_lt (x := x) 24 16777216 rfl (16 : Int32) 16 (by decide) (by decide) (by omega)).mpr (by omega) : (sh x 24) < (16 : Int32))).1 (by decide) (by decide) (ob' C 62 d36_61 rfl rfl (oe' C 63 (4 : Int32) d36_62 rfl (by decide) ?_))))
    refine oj' C (pc' := 73) d36_63 (tlt ((sh_lt (x := x) 24 16777216 rfl (4 : Int32) 4 (by decide) (by decide) (by omega)).mpr (by omega) : (sh x 24) < (4 : Int32))).1 (by decide) (by decide) (ob' C 74 d36_73 rfl rfl (ob' C 75 d36_74 rfl rfl (oe' C 76 (1 : Int32) d36_75 rfl (by decide) (ok' C 77 (0 : Int32) d36_76 rfl ((sh_ushr x 24 (1 : Int32) 1 (by decide)).trans (sh_lit (x := x) 25 33554432 rfl 0 (by omega) (by decide))) ?_))))
    refine ow' C 78 (7 : Int32) d36_77 rfl (by decide) (op' C d36_78 rfl (by decide) (by decide) ?_)
    exact ⟨(7 : Int32), rfl, rfl, (Bl.mk x _ 24 (by decide) (by decide) hb.1 hb.2)⟩
  · skip
    refine ob' C 1 d36_0 rfl rfl (on' C (pc' := 15) d36_1 (tlt (pos_uN.mpr ⟨by omega, by omega⟩ : (0 : Int32) < x)).2.2.1 (by decide) (by decide) (om' C 17 (31 : Int32) d36_15 rfl (by decide) (oh' C 18 (Ls' := #[.val (.int x), .val (.int 31)]) d36_17 rfl rfl (ob' C 19 d36_18 rfl rfl ?_))))
    refine ov' C 22 (v := (65536 : Int32)) d36_19 rfl (hq hw 107 rfl) (ol' C 25 d36_22 rfl (flt (fun z => absurd ((show uN (65536 : Int32) = 65536 by decide) ▸ (lt_lit (x := x) (c := (65536 : Int32)) (by omega) (by decide)).mp z : uN x < 65536) (by omega) : ¬ (x < (65536 : Int32)))).1 (oo' C 28 (Ls' := #[.val (.int x), .val (.int 15)]) (-16 : Int32) d36_25 rfl (by decide) rfl rfl (ob' C 29 d36_28 rfl rfl (om' C 31 (16 : Int32) d36_29 rfl (by decide) ?_))))
    refine ok' C 32 (sh x 16) d36_31 rfl (ushr_sh x (16 : Int32) 16 (by decide)) (oh' C 33 (Ls' := #[.val (.int (sh x 16)), .val (.int 15)]) d36_32 rfl rfl (ob' C 34 d36_33 rfl rfl (ox' C 37 (256 : Int32) d36_34 rfl (by decide) (ol' C 40 d36_37 rfl (flt (fun z => absurd ((sh_lt (x := x) 16 65536 rfl (256 : Int32) 256 (by decide) (by decide) (by omega)).mp z) (by omega) : ¬ ((sh x 16) < (256 : Int32)))).1 ?_))))
    refine oo' C 43 (Ls' := #[.val (.int (sh x 16)), .val (.int 7)]) (-8 : Int32) d36_40 rfl (by decide) rfl rfl (ob' C 44 d36_43 rfl rfl (om' C 46 (8 : Int32) d36_44 rfl (by decide) (ok' C 47 (sh x 24) d36_46 rfl (sh_ushr x 16 (8 : Int32) 8 (by decide)) (oh' C 48 (Ls' := #[.val (.int (sh x 24)), .val (.int 7)]) d36_47 rfl rfl ?_))))
    refine ob' C 49 d36_48 rfl rfl (om' C 51 (16 : Int32) d36_49 rfl (by decide) (oj' C (pc' := 61) d36_51 (tlt ((sh_lt (x := x) 24 16777216 rfl (16 : Int32) 16 (by decide) (by decide) (by omega)).mpr (by omega) : (sh x 24) < (16 : Int32))).1 (by decide) (by decide) (ob' C 62 d36_61 rfl rfl (oe' C 63 (4 : Int32) d36_62 rfl (by decide) ?_))))
    refine oj' C (pc' := 73) d36_63 (tlt ((sh_lt (x := x) 24 16777216 rfl (4 : Int32) 4 (by decide) (by decide) (by omega)).mpr (by omega) : (sh x 24) < (4 : Int32))).1 (by decide) (by decide) (ob' C 74 d36_73 rfl rfl (ob' C 75 d36_74 rfl rfl (oe' C 76 (1 : Int32) d36_75 rfl (by decide) (ok' C 77 (1 : Int32) d36_76 rfl ((sh_ushr x 24 (1 : Int32) 1 (by decide)).trans (sh_lit (x := x) 25 33554432 rfl 1 (by omega) (by decide))) ?_))))
    refine ow' C 78 (6 : Int32) d36_77 rfl (by decide) (op' C d36_78 rfl (by decide) (by decide) ?_)
    exact ⟨(6 : Int32), rfl, rfl, (Bl.mk x _ 25 (by decide) (by decide) hb.1 hb.2)⟩
  · skip
    refine ob' C 1 d36_0 rfl rfl (on' C (pc' := 15) d36_1 (tlt (pos_uN.mpr ⟨by omega, by omega⟩ : (0 : Int32) < x)).2.2.1 (by decide) (by decide) (om' C 17 (31 : Int32) d36_15 rfl (by decide) (oh' C 18 (Ls' := #[.val (.int x), .val (.int 31)]) d36_17 rfl rfl (ob' C 19 d36_18 rfl rfl ?_))))
    refine ov' C 22 (v := (65536 : Int32)) d36_19 rfl (hq hw 107 rfl) (ol' C 25 d36_22 rfl (flt (fun z => absurd ((show uN (65536 : Int32) = 65536 by decide) ▸ (lt_lit (x := x) (c := (65536 : Int32)) (by omega) (by decide)).mp z : uN x < 65536) (by omega) : ¬ (x < (65536 : Int32)))).1 (oo' C 28 (Ls' := #[.val (.int x), .val (.int 15)]) (-16 : Int32) d36_25 rfl (by decide) rfl rfl (ob' C 29 d36_28 rfl rfl (om' C 31 (16 : Int32) d36_29 rfl (by decide) ?_))))
    refine ok' C 32 (sh x 16) d36_31 rfl (ushr_sh x (16 : Int32) 16 (by decide)) (oh' C 33 (Ls' := #[.val (.int (sh x 16)), .val (.int 15)]) d36_32 rfl rfl (ob' C 34 d36_33 rfl rfl (ox' C 37 (256 : Int32) d36_34 rfl (by decide) (ol' C 40 d36_37 rfl (flt (fun z => absurd ((sh_lt (x := x) 16 65536 rfl (256 : Int32) 256 (by decide) (by decide) (by omega)).mp z) (by omega) : ¬ ((sh x 16) < (256 : Int32)))).1 ?_))))
    refine oo' C 43 (Ls' := #[.val (.int (sh x 16)), .val (.int 7)]) (-8 : Int32) d36_40 rfl (by decide) rfl rfl (ob' C 44 d36_43 rfl rfl (om' C 46 (8 : Int32) d36_44 rfl (by decide) (ok' C 47 (sh x 24) d36_46 rfl (sh_ushr x 16 (8 : Int32) 8 (by decide)) (oh' C 48 (Ls' := #[.val (.int (sh x 24)), .val (.int 7)]) d36_47 rfl rfl ?_))))
    refine ob' C 49 d36_48 rfl rfl (om' C 51 (16 : Int32) d36_49 rfl (by decide) (oj' C (pc' := 61) d36_51 (tlt ((sh_lt (x := x) 24 16777216 rfl (16 : Int32) 16 (by decide) (by decide) (by omega)).mpr (by omega) : (sh x 24) < (16 : Int32))).1 (by decide) (by decide) (ob' C 62 d36_61 rfl rfl (oe' C 63 (4 : Int32) d36_62 rfl (by decide) ?_))))
    refine ol' C 66 d36_63 rfl (flt (fun z => absurd ((sh_lt (x := x) 24 16777216 rfl (4 : Int32) 4 (by decide) (by decide) (by omega)).mp z) (by omega) : ¬ ((sh x 24) < (4 : Int32)))).1 (oo' C 69 (Ls' := #[.val (.int (sh x 24)), .val (.int 5)]) (-2 : Int32) d36_66 rfl (by decide) rfl rfl (ob' C 70 d36_69 rfl rfl (oe' C 71 (2 : Int32) d36_70 rfl (by decide) (ok' C 72 (sh x 26) d36_71 rfl (sh_ushr x 24 (2 : Int32) 2 (by decide)) ?_))))
    refine oh' C 73 (Ls' := #[.val (.int (sh x 26)), .val (.int 5)]) d36_72 rfl rfl (ob' C 74 d36_73 rfl rfl (ob' C 75 d36_74 rfl rfl (oe' C 76 (1 : Int32) d36_75 rfl (by decide) (ok' C 77 (0 : Int32) d36_76 rfl ((sh_ushr x 26 (1 : Int32) 1 (by decide)).trans (sh_lit (x := x) 27 134217728 rfl 0 (by omega) (by decide))) ?_))))
    refine ow' C 78 (5 : Int32) d36_77 rfl (by decide) (op' C d36_78 rfl (by decide) (by decide) ?_)
    exact ⟨(5 : Int32), rfl, rfl, (Bl.mk x _ 26 (by decide) (by decide) hb.1 hb.2)⟩
  · skip
    refine ob' C 1 d36_0 rfl rfl (on' C (pc' := 15) d36_1 (tlt (pos_uN.mpr ⟨by omega, by omega⟩ : (0 : Int32) < x)).2.2.1 (by decide) (by decide) (om' C 17 (31 : Int32) d36_15 rfl (by decide) (oh' C 18 (Ls' := #[.val (.int x), .val (.int 31)]) d36_17 rfl rfl (ob' C 19 d36_18 rfl rfl ?_))))
    refine ov' C 22 (v := (65536 : Int32)) d36_19 rfl (hq hw 107 rfl) (ol' C 25 d36_22 rfl (flt (fun z => absurd ((show uN (65536 : Int32) = 65536 by decide) ▸ (lt_lit (x := x) (c := (65536 : Int32)) (by omega) (by decide)).mp z : uN x < 65536) (by omega) : ¬ (x < (65536 : Int32)))).1 (oo' C 28 (Ls' := #[.val (.int x), .val (.int 15)]) (-16 : Int32) d36_25 rfl (by decide) rfl rfl (ob' C 29 d36_28 rfl rfl (om' C 31 (16 : Int32) d36_29 rfl (by decide) ?_))))
    refine ok' C 32 (sh x 16) d36_31 rfl (ushr_sh x (16 : Int32) 16 (by decide)) (oh' C 33 (Ls' := #[.val (.int (sh x 16)), .val (.int 15)]) d36_32 rfl rfl (ob' C 34 d36_33 rfl rfl (ox' C 37 (256 : Int32) d36_34 rfl (by decide) (ol' C 40 d36_37 rfl (flt (fun z => absurd ((sh_lt (x := x) 16 65536 rfl (256 : Int32) 256 (by decide) (by decide) (by omega)).mp z) (by omega) : ¬ ((sh x 16) < (256 : Int32)))).1 ?_))))
    refine oo' C 43 (Ls' := #[.val (.int (sh x 16)), .val (.int 7)]) (-8 : Int32) d36_40 rfl (by decide) rfl rfl (ob' C 44 d36_43 rfl rfl (om' C 46 (8 : Int32) d36_44 rfl (by decide) (ok' C 47 (sh x 24) d36_46 rfl (sh_ushr x 16 (8 : Int32) 8 (by decide)) (oh' C 48 (Ls' := #[.val (.int (sh x 24)), .val (.int 7)]) d36_47 rfl rfl ?_))))
    refine ob' C 49 d36_48 rfl rfl (om' C 51 (16 : Int32) d36_49 rfl (by decide) (oj' C (pc' := 61) d36_51 (tlt ((sh_lt (x := x) 24 16777216 rfl (16 : Int32) 16 (by decide) (by decide) (by omega)).mpr (by omega) : (sh x 24) < (16 : Int32))).1 (by decide) (by decide) (ob' C 62 d36_61 rfl rfl (oe' C 63 (4 : Int32) d36_62 rfl (by decide) ?_))))
    refine ol' C 66 d36_63 rfl (flt (fun z => absurd ((sh_lt (x := x) 24 16777216 rfl (4 : Int32) 4 (by decide) (by decide) (by omega)).mp z) (by omega) : ¬ ((sh x 24) < (4 : Int32)))).1 (oo' C 69 (Ls' := #[.val (.int (sh x 24)), .val (.int 5)]) (-2 : Int32) d36_66 rfl (by decide) rfl rfl (ob' C 70 d36_69 rfl rfl (oe' C 71 (2 : Int32) d36_70 rfl (by decide) (ok' C 72 (sh x 26) d36_71 rfl (sh_ushr x 24 (2 : Int32) 2 (by decide)) ?_))))
    refine oh' C 73 (Ls' := #[.val (.int (sh x 26)), .val (.int 5)]) d36_72 rfl rfl (ob' C 74 d36_73 rfl rfl (ob' C 75 d36_74 rfl rfl (oe' C 76 (1 : Int32) d36_75 rfl (by decide) (ok' C 77 (1 : Int32) d36_76 rfl ((sh_ushr x 26 (1 : Int32) 1 (by decide)).trans (sh_lit (x := x) 27 134217728 rfl 1 (by omega) (by decide))) ?_))))
    refine ow' C 78 (4 : Int32) d36_77 rfl (by decide) (op' C d36_78 rfl (by decide) (by decide) ?_)
    exact ⟨(4 : Int32), rfl, rfl, (Bl.mk x _ 27 (by decide) (by decide) hb.1 hb.2)⟩
  · skip
    refine ob' C 1 d36_0 rfl rfl (on' C (pc' := 15) d36_1 (tlt (pos_uN.mpr ⟨by omega, by omega⟩ : (0 : Int32) < x)).2.2.1 (by decide) (by decide) (om' C 17 (31 : Int32) d36_15 rfl (by decide) (oh' C 18 (Ls' := #[.val (.int x), .val (.int 31)]) d36_17 rfl rfl (ob' C 19 d36_18 rfl rfl ?_))))
    refine ov' C 22 (v := (65536 : Int32)) d36_19 rfl (hq hw 107 rfl) (ol' C 25 d36_22 rfl (flt (fun z => absurd ((show uN (65536 : Int32) = 65536 by decide) ▸ (lt_lit (x := x) (c := (65536 : Int32)) (by omega) (by decide)).mp z : uN x < 65536) (by omega) : ¬ (x < (65536 : Int32)))).1 (oo' C 28 (Ls' := #[.val (.int x), .val (.int 15)]) (-16 : Int32) d36_25 rfl (by decide) rfl rfl (ob' C 29 d36_28 rfl rfl (om' C 31 (16 : Int32) d36_29 rfl (by decide) ?_))))
    refine ok' C 32 (sh x 16) d36_31 rfl (ushr_sh x (16 : Int32) 16 (by decide)) (oh' C 33 (Ls' := #[.val (.int (sh x 16)), .val (.int 15)]) d36_32 rfl rfl (ob' C 34 d36_33 rfl rfl (ox' C 37 (256 : Int32) d36_34 rfl (by decide) (ol' C 40 d36_37 rfl (flt (fun z => absurd ((sh_lt (x := x) 16 65536 rfl (256 : Int32) 256 (by decide) (by decide) (by omega)).mp z) (by omega) : ¬ ((sh x 16) < (256 : Int32)))).1 ?_))))
    refine oo' C 43 (Ls' := #[.val (.int (sh x 16)), .val (.int 7)]) (-8 : Int32) d36_40 rfl (by decide) rfl rfl (ob' C 44 d36_43 rfl rfl (om' C 46 (8 : Int32) d36_44 rfl (by decide) (ok' C 47 (sh x 24) d36_46 rfl (sh_ushr x 16 (8 : Int32) 8 (by decide)) (oh' C 48 (Ls' := #[.val (.int (sh x 24)), .val (.int 7)]) d36_47 rfl rfl ?_))))
    refine ob' C 49 d36_48 rfl rfl (om' C 51 (16 : Int32) d36_49 rfl (by decide) (ol' C 54 d36_51 rfl (flt (fun z => absurd ((sh_lt (x := x) 24 16777216 rfl (16 : Int32) 16 (by decide) (by decide) (by omega)).mp z) (by omega) : ¬ ((sh x 24) < (16 : Int32)))).1 (oo' C 57 (Ls' := #[.val (.int (sh x 24)), .val (.int 3)]) (-4 : Int32) d36_54 rfl (by decide) rfl rfl (ob' C 58 d36_57 rfl rfl ?_))))
    refine oe' C 59 (4 : Int32) d36_58 rfl (by decide) (ok' C 60 (sh x 28) d36_59 rfl (sh_ushr x 24 (4 : Int32) 4 (by decide)) (oh' C 61 (Ls' := #[.val (.int (sh x 28)), .val (.int 3)]) d36_60 rfl rfl (ob' C 62 d36_61 rfl rfl (oe' C 63 (4 : Int32) d36_62 rfl (by decide) ?_))))
    refine oj' C (pc' := 73) d36_63 (tlt ((sh_lt (x := x) 28 268435456 rfl (4 : Int32) 4 (by decide) (by decide) (by omega)).mpr (by omega) : (sh x 28) < (4 : Int32))).1 (by decide) (by decide) (ob' C 74 d36_73 rfl rfl (ob' C 75 d36_74 rfl rfl (oe' C 76 (1 : Int32) d36_75 rfl (by decide) (ok' C 77 (0 : Int32) d36_76 rfl ((sh_ushr x 28 (1 : Int32) 1 (by decide)).trans (sh_lit (x := x) 29 536870912 rfl 0 (by omega) (by decide))) ?_))))
    refine ow' C 78 (3 : Int32) d36_77 rfl (by decide) (op' C d36_78 rfl (by decide) (by decide) ?_)
    exact ⟨(3 : Int32), rfl, rfl, (Bl.mk x _ 28 (by decide) (by decide) hb.1 hb.2)⟩
  · skip
    refine ob' C 1 d36_0 rfl rfl (on' C (pc' := 15) d36_1 (tlt (pos_uN.mpr ⟨by omega, by omega⟩ : (0 : Int32) < x)).2.2.1 (by decide) (by decide) (om' C 17 (31 : Int32) d36_15 rfl (by decide) (oh' C 18 (Ls' := #[.val (.int x), .val (.int 31)]) d36_17 rfl rfl (ob' C 19 d36_18 rfl rfl ?_))))
    refine ov' C 22 (v := (65536 : Int32)) d36_19 rfl (hq hw 107 rfl) (ol' C 25 d36_22 rfl (flt (fun z => absurd ((show uN (65536 : Int32) = 65536 by decide) ▸ (lt_lit (x := x) (c := (65536 : Int32)) (by omega) (by decide)).mp z : uN x < 65536) (by omega) : ¬ (x < (65536 : Int32)))).1 (oo' C 28 (Ls' := #[.val (.int x), .val (.int 15)]) (-16 : Int32) d36_25 rfl (by decide) rfl rfl (ob' C 29 d36_28 rfl rfl (om' C 31 (16 : Int32) d36_29 rfl (by decide) ?_))))
    refine ok' C 32 (sh x 16) d36_31 rfl (ushr_sh x (16 : Int32) 16 (by decide)) (oh' C 33 (Ls' := #[.val (.int (sh x 16)), .val (.int 15)]) d36_32 rfl rfl (ob' C 34 d36_33 rfl rfl (ox' C 37 (256 : Int32) d36_34 rfl (by decide) (ol' C 40 d36_37 rfl (flt (fun z => absurd ((sh_lt (x := x) 16 65536 rfl (256 : Int32) 256 (by decide) (by decide) (by omega)).mp z) (by omega) : ¬ ((sh x 16) < (256 : Int32)))).1 ?_))))
    refine oo' C 43 (Ls' := #[.val (.int (sh x 16)), .val (.int 7)]) (-8 : Int32) d36_40 rfl (by decide) rfl rfl (ob' C 44 d36_43 rfl rfl (om' C 46 (8 : Int32) d36_44 rfl (by decide) (ok' C 47 (sh x 24) d36_46 rfl (sh_ushr x 16 (8 : Int32) 8 (by decide)) (oh' C 48 (Ls' := #[.val (.int (sh x 24)), .val (.int 7)]) d36_47 rfl rfl ?_))))
    refine ob' C 49 d36_48 rfl rfl (om' C 51 (16 : Int32) d36_49 rfl (by decide) (ol' C 54 d36_51 rfl (flt (fun z => absurd ((sh_lt (x := x) 24 16777216 rfl (16 : Int32) 16 (by decide) (by decide) (by omega)).mp z) (by omega) : ¬ ((sh x 24) < (16 : Int32)))).1 (oo' C 57 (Ls' := #[.val (.int (sh x 24)), .val (.int 3)]) (-4 : Int32) d36_54 rfl (by decide) rfl rfl (ob' C 58 d36_57 rfl rfl ?_))))
    refine oe' C 59 (4 : Int32) d36_58 rfl (by decide) (ok' C 60 (sh x 28) d36_59 rfl (sh_ushr x 24 (4 : Int32) 4 (by decide)) (oh' C 61 (Ls' := #[.val (.int (sh x 28)), .val (.int 3)]) d36_60 rfl rfl (ob' C 62 d36_61 rfl rfl (oe' C 63 (4 : Int32) d36_62 rfl (by decide) ?_))))
    refine oj' C (pc' := 73) d36_63 (tlt ((sh_lt (x := x) 28 268435456 rfl (4 : Int32) 4 (by decide) (by decide) (by omega)).mpr (by omega) : (sh x 28) < (4 : Int32))).1 (by decide) (by decide) (ob' C 74 d36_73 rfl rfl (ob' C 75 d36_74 rfl rfl (oe' C 76 (1 : Int32) d36_75 rfl (by decide) (ok' C 77 (1 : Int32) d36_76 rfl ((sh_ushr x 28 (1 : Int32) 1 (by decide)).trans (sh_lit (x := x) 29 536870912 rfl 1 (by omega) (by decide))) ?_))))
    refine ow' C 78 (2 : Int32) d36_77 rfl (by decide) (op' C d36_78 rfl (by decide) (by decide) ?_)
    exact ⟨(2 : Int32), rfl, rfl, (Bl.mk x _ 29 (by decide) (by decide) hb.1 hb.2)⟩
  · skip
    refine ob' C 1 d36_0 rfl rfl (on' C (pc' := 15) d36_1 (tlt (pos_uN.mpr ⟨by omega, by omega⟩ : (0 : Int32) < x)).2.2.1 (by decide) (by decide) (om' C 17 (31 : Int32) d36_15 rfl (by decide) (oh' C 18 (Ls' := #[.val (.int x), .val (.int 31)]) d36_17 rfl rfl (ob' C 19 d36_18 rfl rfl ?_))))
    refine ov' C 22 (v := (65536 : Int32)) d36_19 rfl (hq hw 107 rfl) (ol' C 25 d36_22 rfl (flt (fun z => absurd ((show uN (65536 : Int32) = 65536 by decide) ▸ (lt_lit (x := x) (c := (65536 : Int32)) (by omega) (by decide)).mp z : uN x < 65536) (by omega) : ¬ (x < (65536 : Int32)))).1 (oo' C 28 (Ls' := #[.val (.int x), .val (.int 15)]) (-16 : Int32) d36_25 rfl (by decide) rfl rfl (ob' C 29 d36_28 rfl rfl (om' C 31 (16 : Int32) d36_29 rfl (by decide) ?_))))
    refine ok' C 32 (sh x 16) d36_31 rfl (ushr_sh x (16 : Int32) 16 (by decide)) (oh' C 33 (Ls' := #[.val (.int (sh x 16)), .val (.int 15)]) d36_32 rfl rfl (ob' C 34 d36_33 rfl rfl (ox' C 37 (256 : Int32) d36_34 rfl (by decide) (ol' C 40 d36_37 rfl (flt (fun z => absurd ((sh_lt (x := x) 16 65536 rfl (256 : Int32) 256 (by decide) (by decide) (by omega)).mp z) (by omega) : ¬ ((sh x 16) < (256 : Int32)))).1 ?_))))
    refine oo' C 43 (Ls' := #[.val (.int (sh x 16)), .val (.int 7)]) (-8 : Int32) d36_40 rfl (by decide) rfl rfl (ob' C 44 d36_43 rfl rfl (om' C 46 (8 : Int32) d36_44 rfl (by decide) (ok' C 47 (sh x 24) d36_46 rfl (sh_ushr x 16 (8 : Int32) 8 (by decide)) (oh' C 48 (Ls' := #[.val (.int (sh x 24)), .val (.int 7)]) d36_47 rfl rfl ?_))))
    refine ob' C 49 d36_48 rfl rfl (om' C 51 (16 : Int32) d36_49 rfl (by decide) (ol' C 54 d36_51 rfl (flt (fun z => absurd ((sh_lt (x := x) 24 16777216 rfl (16 : Int32) 16 (by decide) (by decide) (by omega)).mp z) (by omega) : ¬ ((sh x 24) < (16 : Int32)))).1 (oo' C 57 (Ls' := #[.val (.int (sh x 24)), .val (.int 3)]) (-4 : Int32) d36_54 rfl (by decide) rfl rfl (ob' C 58 d36_57 rfl rfl ?_))))
    refine oe' C 59 (4 : Int32) d36_58 rfl (by decide) (ok' C 60 (sh x 28) d36_59 rfl (sh_ushr x 24 (4 : Int32) 4 (by decide)) (oh' C 61 (Ls' := #[.val (.int (sh x 28)), .val (.int 3)]) d36_60 rfl rfl (ob' C 62 d36_61 rfl rfl (oe' C 63 (4 : Int32) d36_62 rfl (by decide) ?_))))
    refine ol' C 66 d36_63 rfl (flt (fun z => absurd ((sh_lt (x := x) 28 268435456 rfl (4 : Int32) 4 (by decide) (by decide) (by omega)).mp z) (by omega) : ¬ ((sh x 28) < (4 : Int32)))).1 (oo' C 69 (Ls' := #[.val (.int (sh x 28)), .val (.int 1)]) (-2 : Int32) d36_66 rfl (by decide) rfl rfl (ob' C 70 d36_69 rfl rfl (oe' C 71 (2 : Int32) d36_70 rfl (by decide) (ok' C 72 (sh x 30) d36_71 rfl (sh_ushr x 28 (2 : Int32) 2 (by decide)) ?_))))
    refine oh' C 73 (Ls' := #[.val (.int (sh x 30)), .val (.int 1)]) d36_72 rfl rfl (ob' C 74 d36_73 rfl rfl (ob' C 75 d36_74 rfl rfl (oe' C 76 (1 : Int32) d36_75 rfl (by decide) (ok' C 77 (0 : Int32) d36_76 rfl ((sh_ushr x 30 (1 : Int32) 1 (by decide)).trans (sh_lit (x := x) 31 2147483648 rfl 0 (by omega) (by decide))) ?_))))
    refine ow' C 78 (1 : Int32) d36_77 rfl (by decide) (op' C d36_78 rfl (by decide) (by decide) ?_)
    exact ⟨(1 : Int32), rfl, rfl, (Bl.mk x _ 30 (by decide) (by decide) hb.1 hb.2)⟩
  · skip
    refine ob' C 1 d36_0 rfl rfl (or' C 4 d36_1 rfl (flt (fun z => absurd (pos_uN.mp z).2 (by omega) : ¬ ((0 : Int32) < x))).2.2.1 (ob' C 5 d36_4 rfl rfl (on' C (pc' := 13) d36_5 (feq (hx : ¬ (x = (0 : Int32)))).2 (by decide) (by decide) (oe' C 14 (0 : Int32) d36_13 rfl (by decide) ?_))))
    refine op' C d36_14 rfl (by decide) (by decide) ?_
    exact ⟨(0 : Int32), rfl, rfl, (Bl.mk x _ 31 (by decide) (by decide) hb.1 hb.2)⟩
theorem ct_bli (l : Launch) (Z : State) (a0 : Array Value) (hw : HW a0 Z) {one t1 zero t0 pos neg : Addr} {k1 k0 kp kn : ClassId} {pvs nvs : List Value} (am : Amb Z a0 one t1 zero t0 pos neg k1 k0 kp kn pvs nvs) {x : Int32} {h0 : Heap} (hx : ¬ (x = (0 : Int32))) :
    Py l Z (⟨"java/math/BigInteger", "bitLengthForInt", "(I)I"⟩ : MethodName) 2 26 0 0 #[.int x] h0 [] (fun rv h' => ∃ (b : Int32), rv = some (.int b) ∧ h' = h0 ∧ (Bl x b)) := by
  refine Ct.py (by0 := y12) (ml := 1) (rt := (some .int)) (rm := ({ frames := 1, cells := 0, slots := 0, locals := 14 } : Room)) ?_ (hq hw 200 rfl) (hq hw 8 rfl)
  refine Ct.mk (a0 := a0) (Ls := #[.val (.int x)]) (plainFor_of_name pn_java_math_BigInteger) (fun m => by simp [entryFrame, mkF, argsToLocals, Value.category]) ?_
  intro κ C
  show Go l _ Z _ _ _ κ [] h0 0 #[.val (.int x)] [] 0 0
  refine om' C 2 (32 : Int32) d35_0 rfl (by decide) (ob' C 3 d35_2 rfl rfl (oc1' C (argsL := [.int x]) (W := 1) d35_3 (hq hw 201 rfl) (hq hw 202 rfl) (hq hw 96 rfl) (hq hw 203 rfl) (by decide) pd__I_I (ct_nlz l Z a0 hw am (x := x) hx) rfl (Nat.le_of_eq rfl) rfl (by decide) mems0 ?_))
  intro fv1 ph2 K3 fq4
  obtain ⟨z5, rfl, rfl, fx6⟩ := fq4
  refine ⟨[], fresh0, ?_⟩
  show Go l _ Z _ _ _ κ _ _ 6 _ [.int z5, .int 32] 0 0
  refine ow' C 7 ((32 : Int32) - z5) d35_6 rfl rfl (op' C d35_7 rfl (by decide) (by decide) ?_)
  exact ⟨((32 : Int32) - z5), rfl, rfl, fx6⟩
theorem gcdloop (l : Launch) (Z : State) (a0 : Array Value) (hw : HW a0 Z) {one t1 zero t0 pos neg : Addr} {k1 k0 kp kn : ClassId} {pvs nvs : List Value} (am : Amb Z a0 one t1 zero t0 pos neg k1 k0 kp kn pvs nvs) {h0 : Heap} {κ : Kx} {t2 : Int32} (C : Cx Z a0 (⟨"java/math/MutableBigInteger", "binaryGcd", "(II)I"⟩ : MethodName) jdk_2101_method_74_code 5 (some .int) κ) : ∀ (N : Nat) (a : Int32), uN a ≤ N → uN a % 2 = 1 → Go l ({ frames := 1, cells := 0, slots := 0, locals := 14 } : Room) Z [] h0 (fun v h' => v = some (.int 1) ∧ h' = h0) κ [] h0 42 #[.val (.int a), .val (.int 1), .val (.int t2), .val (.int 0), .val (.int 0)] [] 0 0 := by
  intro N
  induction N with
  | zero => intro a hN ho; omega
  | succ N ih =>
    intro a hN ho
    refine ob' C 43 d18_42 rfl rfl (ob' C 44 d18_43 rfl rfl ?_)
    by_cases ha : a = (1 : Int32)
    · skip
      refine oj' C (pc' := 86) d18_44 (teq ha).1 (by decide) (by decide) (ob' C 87 d18_86 rfl rfl (oa' C 89 d18_87 rfl rfl (ox1' C 90 (1 : Int32) d18_89 rfl (by rw [ha]; decide) (op' C d18_90 rfl (by decide) (by decide) ?_))))
      exact ⟨rfl, rfl⟩
    · skip
      refine ol' C 47 d18_44 rfl (feq ha).1 (ob' C 48 d18_47 rfl rfl (oc2' C 50 (v := (-2147483648 : Int32)) d18_48 rfl (hq hw 106 rfl) (oz' C 51 (a + (-2147483648 : Int32)) d18_50 rfl rfl (ob' C 52 d18_51 rfl rfl ?_))))
      refine oc2' C 54 (v := (-2147483648 : Int32)) d18_52 rfl (hq hw 106 rfl) (oz' C 55 (-2147483647 : Int32) d18_54 rfl (by decide) (ol' C 58 d18_55 rfl (tlt (gt_one ho ha : (-2147483647 : Int32) < (a + (-2147483648 : Int32)))).2.2.2 (ob' C 59 d18_58 rfl rfl (ob' C 60 d18_59 rfl rfl ?_))))
      refine ow' C 61 (a - (1 : Int32)) d18_60 rfl rfl (oh' C 62 (Ls' := #[.val (.int (a - (1 : Int32))), .val (.int 1), .val (.int t2), .val (.int 0), .val (.int 0)]) d18_61 rfl rfl (ob' C 63 d18_62 rfl rfl (ob' C 64 d18_63 rfl rfl (oc1' C (argsL := [(.int (a - (1 : Int32)))]) (W := 1) d18_64 (hq hw 94 rfl) (hq hw 95 rfl) (hq hw 96 rfl) (hq hw 97 rfl) (by decide) pd__I_I (ct_ntz l Z a0 hw am (x := (a - (1 : Int32))) (sub_one_ne ha)) rfl (Nat.le_of_eq rfl) rfl (by decide) mems0 ?_))))
      intro fv1 ph2 K3 fq4
      obtain ⟨t5, rfl, rfl, fx6⟩ := fq4
      refine ⟨[], fresh0, ?_⟩
      show Go l _ Z _ _ _ κ _ _ 67 _ [.int t5, (.int (a - (1 : Int32)))] 0 0
      refine ok' C 68 (XT.ushr (a - (1 : Int32)) t5) d18_67 rfl rfl (oh' C 69 (Ls' := #[.val (.int (XT.ushr (a - (1 : Int32)) t5)), .val (.int 1), .val (.int t2), .val (.int 0), .val (.int 0)]) d18_68 rfl rfl (os' C (pc' := 42) d18_69 (by decide) (by decide) ?_))
      exact ih _ (step_le ho fx6 hN) (Tz.odd fx6)
theorem ct_gcd (l : Launch) (Z : State) (a0 : Array Value) (hw : HW a0 Z) {one t1 zero t0 pos neg : Addr} {k1 k0 kp kn : ClassId} {pvs nvs : List Value} (am : Amb Z a0 one t1 zero t0 pos neg k1 k0 kp kn pvs nvs) {a : Int32} {h0 : Heap} (ha : ¬ (a = (0 : Int32))) :
    Py l Z (⟨"java/math/MutableBigInteger", "binaryGcd", "(II)I"⟩ : MethodName) 2 30 0 0 #[.int a, .int 1] h0 [] (fun rv h' => rv = some (.int 1) ∧ h' = h0) := by
  refine Ct.py (by0 := y26) (ml := 5) (rt := (some .int)) (rm := ({ frames := 1, cells := 0, slots := 0, locals := 14 } : Room)) ?_ (hq hw 105 rfl) (hq hw 43 rfl)
  refine Ct.mk (a0 := a0) (Ls := #[.val (.int a), .val (.int 1), .unset, .unset, .unset]) (plainFor_of_name pn_java_math_MutableBigInteger) (fun m => by simp [entryFrame, mkF, argsToLocals, Value.category]) ?_
  intro κ C
  show Go l _ Z _ _ _ κ [] h0 0 #[.val (.int a), .val (.int 1), .unset, .unset, .unset] [] 0 0
  refine ob' C 1 d18_0 rfl rfl (on' C (pc' := 6) d18_1 (by decide) (by decide) (by decide) (ob' C 7 d18_6 rfl rfl (on' C (pc' := 12) d18_7 (feq (ha : ¬ (a = (0 : Int32)))).2 (by decide) (by decide) (ob' C 13 d18_12 rfl rfl ?_))))
  refine oc1' C (argsL := [.int a]) (W := 0) d18_13 (hq hw 94 rfl) (hq hw 95 rfl) (hq hw 96 rfl) (hq hw 97 rfl) (by decide) pd__I_I (ct_ntz l Z a0 hw am (x := a) ha) rfl (Nat.le_of_eq rfl) rfl (by decide) mems0 ?_
  intro fv1 ph2 K3 fq4
  obtain ⟨t5, rfl, rfl, fx6⟩ := fq4
  refine ⟨[], fresh0, ?_⟩
  show Go l _ Z _ _ _ κ _ _ 16 _ [.int t5] 0 0
  refine oh' C 17 (Ls' := #[.val (.int a), .val (.int 1), .val (.int t5), .unset, .unset]) d18_16 rfl rfl (ob' C 18 d18_17 rfl rfl (oc1' C (argsL := [.int 1]) (W := 0) d18_18 (hq hw 94 rfl) (hq hw 95 rfl) (hq hw 96 rfl) (hq hw 97 rfl) (by decide) pd__I_I (ct_ntz1 l Z a0 hw am) rfl (Nat.le_of_eq rfl) rfl (by decide) mems0 ?_))
  intro fv7 ph8 K9 fq10
  obtain ⟨rfl, rfl⟩ := fq10
  refine ⟨[], fresh0, ?_⟩
  show Go l _ Z _ _ _ κ _ _ 21 _ [.int 0] 0 0
  refine oh' C 22 (Ls' := #[.val (.int a), .val (.int 1), .val (.int t5), .val (.int 0), .unset]) d18_21 rfl rfl (ob' C 23 d18_22 rfl rfl (ob' C 24 d18_23 rfl rfl (ok' C 25 (XT.ushr a t5) d18_24 rfl rfl (oh' C 26 (Ls' := #[.val (.int (XT.ushr a t5)), .val (.int 1), .val (.int t5), .val (.int 0), .unset]) d18_25 rfl rfl ?_))))
  refine ob' C 27 d18_26 rfl rfl (ob' C 28 d18_27 rfl rfl (ok' C 29 (1 : Int32) d18_28 rfl (by decide) (oh' C 30 (Ls' := #[.val (.int (XT.ushr a t5)), .val (.int 1), .val (.int t5), .val (.int 0), .unset]) d18_29 rfl rfl (ob' C 31 d18_30 rfl rfl ?_))))
  refine ob' C 32 d18_31 rfl rfl (oj' C (pc' := 39) d18_32 (flt (fx6.nn : ¬ (t5 < (0 : Int32)))).2.1 (by decide) (by decide) (ob' C 40 d18_39 rfl rfl (of' C 42 (Ls' := #[.val (.int (XT.ushr a t5)), .val (.int 1), .val (.int t5), .val (.int 0), .val (.int 0)]) d18_40 rfl rfl ?_)))
  exact gcdloop l Z a0 hw am C _ _ (Nat.le_refl _) (Tz.odd fx6)
theorem ct_lbv (l : Launch) (Z : State) (a0 : Array Value) (hw : HW a0 Z) {one t1 zero t0 pos neg : Addr} {k1 k0 kp kn : ClassId} {pvs nvs : List Value} (am : Amb Z a0 one t1 zero t0 pos neg k1 k0 kp kn pvs nvs) {u t : Addr} {kt : ClassId} {h0 : Heap} (p0 : Exa Z h0 u "java/math/MutableBigInteger") (p1 : Fld Z h0 u "java/math/MutableBigInteger" "offset" "I" (.int 0)) (p2 : Fld Z h0 u "java/math/MutableBigInteger" "intLen" "I" (.int 1)) (p3 : Fld Z h0 u "java/math/MutableBigInteger" "value" "[I" (.ref t)) (p4 : Arv Z h0 t kt .int 1 [.int 1] (.int 0)) :
    Py l Z (⟨"java/math/MutableBigInteger", "getLowestSetBit", "()I"⟩ : MethodName) 2 28 0 0 #[(.ref u)] h0 [] (fun rv h' => rv = some (.int 0) ∧ h' = h0) := by
  refine Ct.py (by0 := y16) (ml := 3) (rt := (some .int)) (rm := ({ frames := 1, cells := 0, slots := 0, locals := 14 } : Room)) ?_ (hq hw 93 rfl) (hq hw 43 rfl)
  refine Ct.mk (a0 := a0) (Ls := #[.val (.ref u), .unset, .unset]) (plainFor_of_name pn_java_math_MutableBigInteger) (fun m => by simp [entryFrame, mkF, argsToLocals, Value.category]) ?_
  intro κ C
  show Go l _ Z _ _ _ κ [] h0 0 #[.val (.ref u), .unset, .unset] [] 0 0
  refine od' C 1 d15_0 rfl rfl rfl (og' C 4 d15_1 rfl (hq hw 53 rfl) Via.refl p2 (on' C (pc' := 9) d15_4 (by decide) (by decide) (by decide) (od' C 10 d15_9 rfl rfl rfl (og' C 13 d15_10 rfl (hq hw 53 rfl) Via.refl p2 ?_))))
  refine oe' C 14 (1 : Int32) d15_13 rfl (by decide) (ow' C 15 (0 : Int32) d15_14 rfl (by decide) (oh' C 16 (Ls' := #[.val (.ref u), .val (.int 0), .unset]) d15_15 rfl rfl (ob' C 17 d15_16 rfl rfl (on' C (pc' := 40) d15_17 (by decide) (by decide) (by decide) ?_))))
  refine od' C 41 d15_40 rfl rfl rfl (og' C 44 d15_41 rfl (hq hw 68 rfl) Via.refl p3 (ob' C 45 d15_44 rfl rfl (od' C 46 d15_45 rfl rfl rfl (og' C 49 d15_46 rfl (hq hw 49 rfl) Via.refl p1 ?_))))
  refine oz' C 50 (0 : Int32) d15_49 rfl (by decide) (oa1' C 51 (v := (.int 1)) d15_50 rfl p4 (by decide) rfl (oh' C 52 (Ls' := #[.val (.ref u), .val (.int 0), .val (.int 1)]) d15_51 rfl rfl (ob' C 53 d15_52 rfl rfl (on' C (pc' := 58) d15_53 (by decide) (by decide) (by decide) ?_))))
  refine od' C 59 d15_58 rfl rfl rfl (og' C 62 d15_59 rfl (hq hw 53 rfl) Via.refl p2 (oe' C 63 (1 : Int32) d15_62 rfl (by decide) (ow' C 64 (0 : Int32) d15_63 rfl (by decide) (ob' C 65 d15_64 rfl rfl ?_))))
  refine ow' C 66 (0 : Int32) d15_65 rfl (by decide) (oe' C 67 (5 : Int32) d15_66 rfl (by decide) (ox1' C 68 (0 : Int32) d15_67 rfl (by decide) (ob' C 69 d15_68 rfl rfl (oc1' C (argsL := [.int 1]) (W := 1) d15_69 (hq hw 94 rfl) (hq hw 95 rfl) (hq hw 96 rfl) (hq hw 97 rfl) (by decide) pd__I_I (ct_ntz1 l Z a0 hw am) rfl (Nat.le_of_eq rfl) rfl (by decide) mems0 ?_))))
  intro fv1 ph2 K3 fq4
  obtain ⟨rfl, rfl⟩ := fq4
  refine ⟨[], fresh0, ?_⟩
  show Go l _ Z _ _ _ κ _ _ 72 _ [.int 0, .int 0] 0 0
  refine oz' C 73 (0 : Int32) d15_72 rfl (by decide) (op' C d15_73 rfl (by decide) (by decide) ?_)
  exact ⟨rfl, rfl⟩
theorem ct_lb1 (l : Launch) (Z : State) (a0 : Array Value) (hw : HW a0 Z) {one t1 zero t0 pos neg : Addr} {k1 k0 kp kn : ClassId} {pvs nvs : List Value} (am : Amb Z a0 one t1 zero t0 pos neg k1 k0 kp kn pvs nvs) {u t : Addr} {kt : ClassId} {x : Int32} {h0 : Heap} (p0 : Exa Z h0 u "java/math/MutableBigInteger") (p1 : Fld Z h0 u "java/math/MutableBigInteger" "offset" "I" (.int 0)) (p2 : Fld Z h0 u "java/math/MutableBigInteger" "intLen" "I" (.int 1)) (p3 : Fld Z h0 u "java/math/MutableBigInteger" "value" "[I" (.ref t)) (p4 : Arv Z h0 t kt .int 1 [.int x] (.int 0)) (hx : ¬ (x = (0 : Int32))) :
    Py l Z (⟨"java/math/MutableBigInteger", "getLowestSetBit", "()I"⟩ : MethodName) 2 28 0 0 #[(.ref u)] h0 [] (fun rv h' => ∃ (z : Int32), rv = some (.int z) ∧ h' = h0 ∧ (Tz x z)) := by
  refine Ct.py (by0 := y16) (ml := 3) (rt := (some .int)) (rm := ({ frames := 1, cells := 0, slots := 0, locals := 14 } : Room)) ?_ (hq hw 93 rfl) (hq hw 43 rfl)
  refine Ct.mk (a0 := a0) (Ls := #[.val (.ref u), .unset, .unset]) (plainFor_of_name pn_java_math_MutableBigInteger) (fun m => by simp [entryFrame, mkF, argsToLocals, Value.category]) ?_
  intro κ C
  show Go l _ Z _ _ _ κ [] h0 0 #[.val (.ref u), .unset, .unset] [] 0 0
  refine od' C 1 d15_0 rfl rfl rfl (og' C 4 d15_1 rfl (hq hw 53 rfl) Via.refl p2 (on' C (pc' := 9) d15_4 (by decide) (by decide) (by decide) (od' C 10 d15_9 rfl rfl rfl (og' C 13 d15_10 rfl (hq hw 53 rfl) Via.refl p2 ?_))))
  refine oe' C 14 (1 : Int32) d15_13 rfl (by decide) (ow' C 15 (0 : Int32) d15_14 rfl (by decide) (oh' C 16 (Ls' := #[.val (.ref u), .val (.int 0), .unset]) d15_15 rfl rfl (ob' C 17 d15_16 rfl rfl (on' C (pc' := 40) d15_17 (by decide) (by decide) (by decide) ?_))))
  refine od' C 41 d15_40 rfl rfl rfl (og' C 44 d15_41 rfl (hq hw 68 rfl) Via.refl p3 (ob' C 45 d15_44 rfl rfl (od' C 46 d15_45 rfl rfl rfl (og' C 49 d15_46 rfl (hq hw 49 rfl) Via.refl p1 ?_))))
  refine oz' C 50 (0 : Int32) d15_49 rfl (by decide) (oa1' C 51 (v := (.int x)) d15_50 rfl p4 (by decide) rfl (oh' C 52 (Ls' := #[.val (.ref u), .val (.int 0), .val (.int x)]) d15_51 rfl rfl (ob' C 53 d15_52 rfl rfl (on' C (pc' := 58) d15_53 (feq (hx : ¬ (x = (0 : Int32)))).2 (by decide) (by decide) ?_))))
  refine od' C 59 d15_58 rfl rfl rfl (og' C 62 d15_59 rfl (hq hw 53 rfl) Via.refl p2 (oe' C 63 (1 : Int32) d15_62 rfl (by decide) (ow' C 64 (0 : Int32) d15_63 rfl (by decide) (ob' C 65 d15_64 rfl rfl ?_))))
  refine ow' C 66 (0 : Int32) d15_65 rfl (by decide) (oe' C 67 (5 : Int32) d15_66 rfl (by decide) (ox1' C 68 (0 : Int32) d15_67 rfl (by decide) (ob' C 69 d15_68 rfl rfl (oc1' C (argsL := [.int x]) (W := 1) d15_69 (hq hw 94 rfl) (hq hw 95 rfl) (hq hw 96 rfl) (hq hw 97 rfl) (by decide) pd__I_I (ct_ntz l Z a0 hw am (x := x) hx) rfl (Nat.le_of_eq rfl) rfl (by decide) mems0 ?_))))
  intro fv1 ph2 K3 fq4
  obtain ⟨t5, rfl, rfl, fx6⟩ := fq4
  refine ⟨[], fresh0, ?_⟩
  show Go l _ Z _ _ _ κ _ _ 72 _ [.int t5, .int 0] 0 0
  refine oz' C 73 t5 d15_72 rfl (Int32.zero_add _) (op' C d15_73 rfl (by decide) (by decide) ?_)
  exact ⟨t5, rfl, rfl, fx6⟩
theorem ct_lb2 (l : Launch) (Z : State) (a0 : Array Value) (hw : HW a0 Z) {one t1 zero t0 pos neg : Addr} {k1 k0 kp kn : ClassId} {pvs nvs : List Value} (am : Amb Z a0 one t1 zero t0 pos neg k1 k0 kp kn pvs nvs) {u t : Addr} {kt : ClassId} {m0 m1 : Int32} {h0 : Heap} (p0 : Exa Z h0 u "java/math/MutableBigInteger") (p1 : Fld Z h0 u "java/math/MutableBigInteger" "offset" "I" (.int 0)) (p2 : Fld Z h0 u "java/math/MutableBigInteger" "intLen" "I" (.int 2)) (p3 : Fld Z h0 u "java/math/MutableBigInteger" "value" "[I" (.ref t)) (p4 : Arv Z h0 t kt .int 2 [.int m0, .int m1] (.int 0)) (h0z : ¬ (m0 = (0 : Int32))) :
    Py l Z (⟨"java/math/MutableBigInteger", "getLowestSetBit", "()I"⟩ : MethodName) 2 28 0 0 #[(.ref u)] h0 [] (fun rv h' => (∃ (z : Int32), rv = some (.int z) ∧ h' = h0 ∧ (¬ (m1 = (0 : Int32))) ∧ (Tz m1 z)) ∨ (∃ (z : Int32), rv = some (.int ((32 : Int32) + z)) ∧ h' = h0 ∧ (m1 = (0 : Int32)) ∧ (Tz m0 z))) := by
  refine Ct.py (by0 := y16) (ml := 3) (rt := (some .int)) (rm := ({ frames := 1, cells := 0, slots := 0, locals := 14 } : Room)) ?_ (hq hw 93 rfl) (hq hw 43 rfl)
  refine Ct.mk (a0 := a0) (Ls := #[.val (.ref u), .unset, .unset]) (plainFor_of_name pn_java_math_MutableBigInteger) (fun m => by simp [entryFrame, mkF, argsToLocals, Value.category]) ?_
  intro κ C
  show Go l _ Z _ _ _ κ [] h0 0 #[.val (.ref u), .unset, .unset] [] 0 0
  refine od' C 1 d15_0 rfl rfl rfl (og' C 4 d15_1 rfl (hq hw 53 rfl) Via.refl p2 (on' C (pc' := 9) d15_4 (by decide) (by decide) (by decide) (od' C 10 d15_9 rfl rfl rfl (og' C 13 d15_10 rfl (hq hw 53 rfl) Via.refl p2 ?_))))
  refine oe' C 14 (1 : Int32) d15_13 rfl (by decide) (ow' C 15 (1 : Int32) d15_14 rfl (by decide) (oh' C 16 (Ls' := #[.val (.ref u), .val (.int 1), .unset]) d15_15 rfl rfl (ob' C 17 d15_16 rfl rfl (or' C 20 d15_17 rfl (by decide) ?_))))
  refine od' C 21 d15_20 rfl rfl rfl (og' C 24 d15_21 rfl (hq hw 68 rfl) Via.refl p3 (ob' C 25 d15_24 rfl rfl (od' C 26 d15_25 rfl rfl rfl (og' C 29 d15_26 rfl (hq hw 49 rfl) Via.refl p1 ?_))))
  refine oz' C 30 (1 : Int32) d15_29 rfl (by decide) (oa1' C 31 (v := (.int m1)) d15_30 rfl p4 (by decide) rfl ?_)
  by_cases hm : m1 = (0 : Int32)
  · skip
    refine or' C 34 d15_31 rfl (teq hm).2 (oo' C 37 (Ls' := #[.val (.ref u), .val (.int 0), .unset]) (-1 : Int32) d15_34 rfl (by decide) rfl rfl (os' C (pc' := 16) d15_37 (by decide) (by decide) (ob' C 17 d15_16 rfl rfl (on' C (pc' := 40) d15_17 (by decide) (by decide) (by decide) ?_))))
    refine od' C 41 d15_40 rfl rfl rfl (og' C 44 d15_41 rfl (hq hw 68 rfl) Via.refl p3 (ob' C 45 d15_44 rfl rfl (od' C 46 d15_45 rfl rfl rfl (og' C 49 d15_46 rfl (hq hw 49 rfl) Via.refl p1 ?_))))
    refine oz' C 50 (0 : Int32) d15_49 rfl (by decide) (oa1' C 51 (v := (.int m0)) d15_50 rfl p4 (by decide) rfl (oh' C 52 (Ls' := #[.val (.ref u), .val (.int 0), .val (.int m0)]) d15_51 rfl rfl (ob' C 53 d15_52 rfl rfl (on' C (pc' := 58) d15_53 (feq (h0z : ¬ (m0 = (0 : Int32)))).2 (by decide) (by decide) ?_))))
    refine od' C 59 d15_58 rfl rfl rfl (og' C 62 d15_59 rfl (hq hw 53 rfl) Via.refl p2 (oe' C 63 (1 : Int32) d15_62 rfl (by decide) (ow' C 64 (1 : Int32) d15_63 rfl (by decide) (ob' C 65 d15_64 rfl rfl ?_))))
    refine ow' C 66 (1 : Int32) d15_65 rfl (by decide) (oe' C 67 (5 : Int32) d15_66 rfl (by decide) (ox1' C 68 (32 : Int32) d15_67 rfl (by decide) (ob' C 69 d15_68 rfl rfl (oc1' C (argsL := [.int m0]) (W := 1) d15_69 (hq hw 94 rfl) (hq hw 95 rfl) (hq hw 96 rfl) (hq hw 97 rfl) (by decide) pd__I_I (ct_ntz l Z a0 hw am (x := m0) h0z) rfl (Nat.le_of_eq rfl) rfl (by decide) mems0 ?_))))
    intro fv1 ph2 K3 fq4
    obtain ⟨t5, rfl, rfl, fx6⟩ := fq4
    refine ⟨[], fresh0, ?_⟩
    show Go l _ Z _ _ _ κ _ _ 72 _ [.int t5, .int 32] 0 0
    refine oz' C 73 ((32 : Int32) + t5) d15_72 rfl rfl (op' C d15_73 rfl (by decide) (by decide) ?_)
    exact Or.inr (⟨t5, rfl, rfl, hm, fx6⟩)
  · skip
    refine on' C (pc' := 40) d15_31 (feq hm).2 (by decide) (by decide) (od' C 41 d15_40 rfl rfl rfl (og' C 44 d15_41 rfl (hq hw 68 rfl) Via.refl p3 (ob' C 45 d15_44 rfl rfl (od' C 46 d15_45 rfl rfl rfl ?_))))
    refine og' C 49 d15_46 rfl (hq hw 49 rfl) Via.refl p1 (oz' C 50 (1 : Int32) d15_49 rfl (by decide) (oa1' C 51 (v := (.int m1)) d15_50 rfl p4 (by decide) rfl (oh' C 52 (Ls' := #[.val (.ref u), .val (.int 1), .val (.int m1)]) d15_51 rfl rfl (ob' C 53 d15_52 rfl rfl ?_))))
    refine on' C (pc' := 58) d15_53 (feq (hm : ¬ (m1 = (0 : Int32)))).2 (by decide) (by decide) (od' C 59 d15_58 rfl rfl rfl (og' C 62 d15_59 rfl (hq hw 53 rfl) Via.refl p2 (oe' C 63 (1 : Int32) d15_62 rfl (by decide) (ow' C 64 (1 : Int32) d15_63 rfl (by decide) ?_))))
    refine ob' C 65 d15_64 rfl rfl (ow' C 66 (0 : Int32) d15_65 rfl (by decide) (oe' C 67 (5 : Int32) d15_66 rfl (by decide) (ox1' C 68 (0 : Int32) d15_67 rfl (by decide) (ob' C 69 d15_68 rfl rfl ?_))))
    refine oc1' C (argsL := [.int m1]) (W := 1) d15_69 (hq hw 94 rfl) (hq hw 95 rfl) (hq hw 96 rfl) (hq hw 97 rfl) (by decide) pd__I_I (ct_ntz l Z a0 hw am (x := m1) hm) rfl (Nat.le_of_eq rfl) rfl (by decide) mems0 ?_
    intro fv7 ph8 K9 fq10
    obtain ⟨t11, rfl, rfl, fx12⟩ := fq10
    refine ⟨[], fresh0, ?_⟩
    show Go l _ Z _ _ _ κ _ _ 72 _ [.int t11, .int 0] 0 0
    refine oz' C 73 t11 d15_72 rfl (Int32.zero_add _) (op' C d15_73 rfl (by decide) (by decide) ?_)
    exact Or.inl ⟨t11, rfl, rfl, hm, fx12⟩
theorem ct_pr1 (l : Launch) (Z : State) (a0 : Array Value) (hw : HW a0 Z) {one t1 zero t0 pos neg : Addr} {k1 k0 kp kn : ClassId} {pvs nvs : List Value} (am : Amb Z a0 one t1 zero t0 pos neg k1 k0 kp kn pvs nvs) {u t : Addr} {kt : ClassId} {x z : Int32} {h0 : Heap} (p0 : Exa Z h0 u "java/math/MutableBigInteger") (p1 : Fld Z h0 u "java/math/MutableBigInteger" "offset" "I" (.int 0)) (p2 : Fld Z h0 u "java/math/MutableBigInteger" "intLen" "I" (.int 1)) (p3 : Fld Z h0 u "java/math/MutableBigInteger" "value" "[I" (.ref t)) (p4 : Arv Z h0 t kt .int 1 [.int x] (.int 0)) :
    Py l Z (⟨"java/math/MutableBigInteger", "primitiveRightShift", "(I)V"⟩ : MethodName) 1 18 0 0 #[(.ref u), .int z] h0 [t] (fun rv h' => rv = none ∧ Arv Z h' t kt .int 1 [(.int (XT.ushr x z))] (.int 0)) := by
  refine Ct.py (by0 := y20) (ml := 7) (rt := none) (rm := ({ frames := 0, cells := 0, slots := 0, locals := 0 } : Room)) ?_ (hq hw 208 rfl) (hq hw 43 rfl)
  refine Ct.mk (a0 := a0) (Ls := #[.val (.ref u), .val (.int z), .unset, .unset, .unset, .unset, .unset]) (plainFor_of_name pn_java_math_MutableBigInteger) (fun m => by simp [entryFrame, mkF, argsToLocals, Value.category]) ?_
  intro κ C
  show Go l _ Z _ _ _ κ [t] h0 0 #[.val (.ref u), .val (.int z), .unset, .unset, .unset, .unset, .unset] [] 0 0
  refine od' C 1 d37_0 rfl rfl rfl (og' C 4 d37_1 rfl (hq hw 68 rfl) Via.refl p3 (oj1' C 5 (Ls' := #[.val (.ref u), .val (.int z), .val (.ref t), .unset, .unset, .unset, .unset]) d37_4 rfl rfl rfl (om' C 7 (32 : Int32) d37_5 rfl (by decide) (ob' C 8 d37_7 rfl rfl ?_))))
  refine ow' C 9 ((32 : Int32) - z) d37_8 rfl rfl (oh' C 10 (Ls' := #[.val (.ref u), .val (.int z), .val (.ref t), .val (.int ((32 : Int32) - z)), .unset, .unset, .unset]) d37_9 rfl rfl (od' C 11 d37_10 rfl rfl rfl (og' C 14 d37_11 rfl (hq hw 49 rfl) Via.refl p1 (od' C 15 d37_14 rfl rfl rfl ?_))))
  refine og' C 18 d37_15 rfl (hq hw 53 rfl) Via.refl p2 (oz' C 19 (1 : Int32) d37_18 rfl (by decide) (oe' C 20 (1 : Int32) d37_19 rfl (by decide) (ow' C 21 (0 : Int32) d37_20 rfl (by decide) (of' C 23 (Ls' := #[.val (.ref u), .val (.int z), .val (.ref t), .val (.int ((32 : Int32) - z)), .val (.int 0), .unset, .unset]) d37_21 rfl rfl ?_))))
  refine od' C 24 d37_23 rfl rfl rfl (oa' C 26 d37_24 rfl rfl (oa1' C 27 (v := (.int x)) d37_26 rfl p4 (by decide) rfl (of' C 29 (Ls' := #[.val (.ref u), .val (.int z), .val (.ref t), .val (.int ((32 : Int32) - z)), .val (.int 0), .val (.int x), .unset]) d37_27 rfl rfl (oa' C 31 d37_29 rfl rfl ?_))))
  refine od' C 32 d37_31 rfl rfl rfl (og' C 35 d37_32 rfl (hq hw 49 rfl) Via.refl p1 (oj' C (pc' := 69) d37_35 (by decide) (by decide) (by decide) (od' C 70 d37_69 rfl rfl rfl (od' C 71 d37_70 rfl rfl rfl ?_))))
  refine og' C 74 d37_71 rfl (hq hw 49 rfl) Via.refl p1 (oe2' C 75 d37_74 rfl rfl rfl (oa1' C 76 (v := (.int x)) d37_75 rfl p4 (by decide) rfl (ob' C 77 d37_76 rfl rfl (ok' C 78 (XT.ushr x z) d37_77 rfl rfl ?_))))
  refine oo1' C 79 0 d37_78 rfl p4 (by decide) rfl (nble rfl) (mi 0 rfl) ?_
  intro ph1 W2 fx3
  have fx4 : Arv Z ph1 t kt .int 1 [(.int (XT.ushr x z))] (.int 0) := fx3
  refine oi' C d37_79 rfl (by decide) (by decide) ?_
  exact ⟨rfl, fx4⟩
theorem ct_pr1b (l : Launch) (Z : State) (a0 : Array Value) (hw : HW a0 Z) {one t1 zero t0 pos neg : Addr} {k1 k0 kp kn : ClassId} {pvs nvs : List Value} (am : Amb Z a0 one t1 zero t0 pos neg k1 k0 kp kn pvs nvs) {u t : Addr} {kt : ClassId} {m0 m1 z : Int32} {h0 : Heap} (p0 : Exa Z h0 u "java/math/MutableBigInteger") (p1 : Fld Z h0 u "java/math/MutableBigInteger" "offset" "I" (.int 0)) (p2 : Fld Z h0 u "java/math/MutableBigInteger" "intLen" "I" (.int 1)) (p3 : Fld Z h0 u "java/math/MutableBigInteger" "value" "[I" (.ref t)) (p4 : Arv Z h0 t kt .int 2 [.int m0, .int m1] (.int 0)) :
    Py l Z (⟨"java/math/MutableBigInteger", "primitiveRightShift", "(I)V"⟩ : MethodName) 1 18 0 0 #[(.ref u), .int z] h0 [t] (fun rv h' => rv = none ∧ Arv Z h' t kt .int 2 [(.int (XT.ushr m0 z)), .int m1] (.int 0)) := by
  refine Ct.py (by0 := y20) (ml := 7) (rt := none) (rm := ({ frames := 0, cells := 0, slots := 0, locals := 0 } : Room)) ?_ (hq hw 208 rfl) (hq hw 43 rfl)
  refine Ct.mk (a0 := a0) (Ls := #[.val (.ref u), .val (.int z), .unset, .unset, .unset, .unset, .unset]) (plainFor_of_name pn_java_math_MutableBigInteger) (fun m => by simp [entryFrame, mkF, argsToLocals, Value.category]) ?_
  intro κ C
  show Go l _ Z _ _ _ κ [t] h0 0 #[.val (.ref u), .val (.int z), .unset, .unset, .unset, .unset, .unset] [] 0 0
  refine od' C 1 d37_0 rfl rfl rfl (og' C 4 d37_1 rfl (hq hw 68 rfl) Via.refl p3 (oj1' C 5 (Ls' := #[.val (.ref u), .val (.int z), .val (.ref t), .unset, .unset, .unset, .unset]) d37_4 rfl rfl rfl (om' C 7 (32 : Int32) d37_5 rfl (by decide) (ob' C 8 d37_7 rfl rfl ?_))))
  refine ow' C 9 ((32 : Int32) - z) d37_8 rfl rfl (oh' C 10 (Ls' := #[.val (.ref u), .val (.int z), .val (.ref t), .val (.int ((32 : Int32) - z)), .unset, .unset, .unset]) d37_9 rfl rfl (od' C 11 d37_10 rfl rfl rfl (og' C 14 d37_11 rfl (hq hw 49 rfl) Via.refl p1 (od' C 15 d37_14 rfl rfl rfl ?_))))
  refine og' C 18 d37_15 rfl (hq hw 53 rfl) Via.refl p2 (oz' C 19 (1 : Int32) d37_18 rfl (by decide) (oe' C 20 (1 : Int32) d37_19 rfl (by decide) (ow' C 21 (0 : Int32) d37_20 rfl (by decide) (of' C 23 (Ls' := #[.val (.ref u), .val (.int z), .val (.ref t), .val (.int ((32 : Int32) - z)), .val (.int 0), .unset, .unset]) d37_21 rfl rfl ?_))))
  refine od' C 24 d37_23 rfl rfl rfl (oa' C 26 d37_24 rfl rfl (oa1' C 27 (v := (.int m0)) d37_26 rfl p4 (by decide) rfl (of' C 29 (Ls' := #[.val (.ref u), .val (.int z), .val (.ref t), .val (.int ((32 : Int32) - z)), .val (.int 0), .val (.int m0), .unset]) d37_27 rfl rfl (oa' C 31 d37_29 rfl rfl ?_))))
  refine od' C 32 d37_31 rfl rfl rfl (og' C 35 d37_32 rfl (hq hw 49 rfl) Via.refl p1 (oj' C (pc' := 69) d37_35 (by decide) (by decide) (by decide) (od' C 70 d37_69 rfl rfl rfl (od' C 71 d37_70 rfl rfl rfl ?_))))
  refine og' C 74 d37_71 rfl (hq hw 49 rfl) Via.refl p1 (oe2' C 75 d37_74 rfl rfl rfl (oa1' C 76 (v := (.int m0)) d37_75 rfl p4 (by decide) rfl (ob' C 77 d37_76 rfl rfl (ok' C 78 (XT.ushr m0 z) d37_77 rfl rfl ?_))))
  refine oo1' C 79 0 d37_78 rfl p4 (by decide) rfl (nble rfl) (mi 0 rfl) ?_
  intro ph1 W2 fx3
  have fx4 : Arv Z ph1 t kt .int 2 [(.int (XT.ushr m0 z)), .int m1] (.int 0) := fx3
  refine oi' C d37_79 rfl (by decide) (by decide) ?_
  exact ⟨rfl, fx4⟩
theorem ct_pr2 (l : Launch) (Z : State) (a0 : Array Value) (hw : HW a0 Z) {one t1 zero t0 pos neg : Addr} {k1 k0 kp kn : ClassId} {pvs nvs : List Value} (am : Amb Z a0 one t1 zero t0 pos neg k1 k0 kp kn pvs nvs) {u t : Addr} {kt : ClassId} {m0 m1 z : Int32} {h0 : Heap} (p0 : Exa Z h0 u "java/math/MutableBigInteger") (p1 : Fld Z h0 u "java/math/MutableBigInteger" "offset" "I" (.int 0)) (p2 : Fld Z h0 u "java/math/MutableBigInteger" "intLen" "I" (.int 2)) (p3 : Fld Z h0 u "java/math/MutableBigInteger" "value" "[I" (.ref t)) (p4 : Arv Z h0 t kt .int 2 [.int m0, .int m1] (.int 0)) :
    Py l Z (⟨"java/math/MutableBigInteger", "primitiveRightShift", "(I)V"⟩ : MethodName) 1 18 0 0 #[(.ref u), .int z] h0 [t] (fun rv h' => rv = none ∧ Arv Z h' t kt .int 2 [(.int (XT.ushr m0 z)), (.int ((m0 <<< (((32 : Int32) - z) &&& (31 : Int32))) ||| (XT.ushr m1 z)))] (.int 0)) := by
  refine Ct.py (by0 := y20) (ml := 7) (rt := none) (rm := ({ frames := 0, cells := 0, slots := 0, locals := 0 } : Room)) ?_ (hq hw 208 rfl) (hq hw 43 rfl)
  refine Ct.mk (a0 := a0) (Ls := #[.val (.ref u), .val (.int z), .unset, .unset, .unset, .unset, .unset]) (plainFor_of_name pn_java_math_MutableBigInteger) (fun m => by simp [entryFrame, mkF, argsToLocals, Value.category]) ?_
  intro κ C
  show Go l _ Z _ _ _ κ [t] h0 0 #[.val (.ref u), .val (.int z), .unset, .unset, .unset, .unset, .unset] [] 0 0
  refine od' C 1 d37_0 rfl rfl rfl (og' C 4 d37_1 rfl (hq hw 68 rfl) Via.refl p3 (oj1' C 5 (Ls' := #[.val (.ref u), .val (.int z), .val (.ref t), .unset, .unset, .unset, .unset]) d37_4 rfl rfl rfl (om' C 7 (32 : Int32) d37_5 rfl (by decide) (ob' C 8 d37_7 rfl rfl ?_))))
  refine ow' C 9 ((32 : Int32) - z) d37_8 rfl rfl (oh' C 10 (Ls' := #[.val (.ref u), .val (.int z), .val (.ref t), .val (.int ((32 : Int32) - z)), .unset, .unset, .unset]) d37_9 rfl rfl (od' C 11 d37_10 rfl rfl rfl (og' C 14 d37_11 rfl (hq hw 49 rfl) Via.refl p1 (od' C 15 d37_14 rfl rfl rfl ?_))))
  refine og' C 18 d37_15 rfl (hq hw 53 rfl) Via.refl p2 (oz' C 19 (2 : Int32) d37_18 rfl (by decide) (oe' C 20 (1 : Int32) d37_19 rfl (by decide) (ow' C 21 (1 : Int32) d37_20 rfl (by decide) (of' C 23 (Ls' := #[.val (.ref u), .val (.int z), .val (.ref t), .val (.int ((32 : Int32) - z)), .val (.int 1), .unset, .unset]) d37_21 rfl rfl ?_))))
  refine od' C 24 d37_23 rfl rfl rfl (oa' C 26 d37_24 rfl rfl (oa1' C 27 (v := (.int m1)) d37_26 rfl p4 (by decide) rfl (of' C 29 (Ls' := #[.val (.ref u), .val (.int z), .val (.ref t), .val (.int ((32 : Int32) - z)), .val (.int 1), .val (.int m1), .unset]) d37_27 rfl rfl (oa' C 31 d37_29 rfl rfl ?_))))
  refine od' C 32 d37_31 rfl rfl rfl (og' C 35 d37_32 rfl (hq hw 49 rfl) Via.refl p1 (ol' C 38 d37_35 rfl (by decide) (oa' C 40 d37_38 rfl rfl (of' C 42 (Ls' := #[.val (.ref u), .val (.int z), .val (.ref t), .val (.int ((32 : Int32) - z)), .val (.int 1), .val (.int m1), .val (.int m1)]) d37_40 rfl rfl ?_))))
  refine od' C 43 d37_42 rfl rfl rfl (oa' C 45 d37_43 rfl rfl (oe' C 46 (1 : Int32) d37_45 rfl (by decide) (ow' C 47 (0 : Int32) d37_46 rfl (by decide) (oa1' C 48 (v := (.int m0)) d37_47 rfl p4 (by decide) rfl ?_))))
  refine of' C 50 (Ls' := #[.val (.ref u), .val (.int z), .val (.ref t), .val (.int ((32 : Int32) - z)), .val (.int 1), .val (.int m0), .val (.int m1)]) d37_48 rfl rfl (od' C 51 d37_50 rfl rfl rfl (oa' C 53 d37_51 rfl rfl (oa' C 55 d37_53 rfl rfl (ob' C 56 d37_55 rfl rfl ?_))))
  refine ox1' C 57 (m0 <<< (((32 : Int32) - z) &&& 31)) d37_56 rfl rfl (oa' C 59 d37_57 rfl rfl (ob' C 60 d37_59 rfl rfl (ok' C 61 (XT.ushr m1 z) d37_60 rfl rfl (ok2' C 62 ((m0 <<< (((32 : Int32) - z) &&& 31)) ||| (XT.ushr m1 z)) d37_61 rfl rfl ?_))))
  refine oo1' C 63 1 d37_62 rfl p4 (by decide) rfl (nble rfl) (mi 0 rfl) ?_
  intro ph1 W2 fx3
  have fx4 : Arv Z ph1 t kt .int 2 [.int m0, (.int ((m0 <<< (((32 : Int32) - z) &&& 31)) ||| (XT.ushr m1 z)))] (.int 0) := fx3
  refine oo' C 66 (Ls' := #[.val (.ref u), .val (.int z), .val (.ref t), .val (.int ((32 : Int32) - z)), .val (.int 0), .val (.int m0), .val (.int m1)]) (-1 : Int32) d37_63 rfl (by decide) rfl rfl (os' C (pc' := 29) d37_66 (by decide) (by decide) (oa' C 31 d37_29 rfl rfl (od' C 32 d37_31 rfl rfl rfl ?_)))
  have fx5 := (Fld.other W2 p1 (Or.inl (Exa.neArv (Exa.wr W2 p0) fx4 (hq hw 42 rfl))))
  refine og' C 35 d37_32 rfl (hq hw 49 rfl) Via.refl fx5 (oj' C (pc' := 69) d37_35 (by decide) (by decide) (by decide) (od' C 70 d37_69 rfl rfl rfl (od' C 71 d37_70 rfl rfl rfl (og' C 74 d37_71 rfl (hq hw 49 rfl) Via.refl fx5 ?_))))
  refine oe2' C 75 d37_74 rfl rfl rfl (oa1' C 76 (v := (.int m0)) d37_75 rfl fx4 (by decide) rfl (ob' C 77 d37_76 rfl rfl (ok' C 78 (XT.ushr m0 z) d37_77 rfl rfl (oo1' C 79 0 d37_78 rfl fx4 (by decide) rfl (nble rfl) (mi 0 rfl) ?_))))
  intro ph6 W7 fx8
  have fx9 : Arv Z ph6 t kt .int 2 [(.int (XT.ushr m0 z)), (.int ((m0 <<< (((32 : Int32) - z) &&& 31)) ||| (XT.ushr m1 z)))] (.int 0) := fx8
  refine oi' C d37_79 rfl (by decide) (by decide) ?_
  exact ⟨rfl, fx9⟩
theorem ct_pl2 (l : Launch) (Z : State) (a0 : Array Value) (hw : HW a0 Z) {one t1 zero t0 pos neg : Addr} {k1 k0 kp kn : ClassId} {pvs nvs : List Value} (am : Amb Z a0 one t1 zero t0 pos neg k1 k0 kp kn pvs nvs) {u t : Addr} {kt : ClassId} {m0 m1 q : Int32} {h0 : Heap} (p0 : Exa Z h0 u "java/math/MutableBigInteger") (p1 : Fld Z h0 u "java/math/MutableBigInteger" "offset" "I" (.int 0)) (p2 : Fld Z h0 u "java/math/MutableBigInteger" "intLen" "I" (.int 2)) (p3 : Fld Z h0 u "java/math/MutableBigInteger" "value" "[I" (.ref t)) (p4 : Arv Z h0 t kt .int 2 [.int m0, .int m1] (.int 0)) :
    Py l Z (⟨"java/math/MutableBigInteger", "primitiveLeftShift", "(I)V"⟩ : MethodName) 1 19 0 0 #[(.ref u), .int q] h0 [t] (fun rv h' => rv = none ∧ Arv Z h' t kt .int 2 [(.int ((m0 <<< (q &&& (31 : Int32))) ||| (XT.ushr m1 ((32 : Int32) - q)))), (.int (m1 <<< (q &&& (31 : Int32))))] (.int 0)) := by
  refine Ct.py (by0 := y21) (ml := 8) (rt := none) (rm := ({ frames := 0, cells := 0, slots := 0, locals := 0 } : Room)) ?_ (hq hw 229 rfl) (hq hw 43 rfl)
  refine Ct.mk (a0 := a0) (Ls := #[.val (.ref u), .val (.int q), .unset, .unset, .unset, .unset, .unset, .unset]) (plainFor_of_name pn_java_math_MutableBigInteger) (fun m => by simp [entryFrame, mkF, argsToLocals, Value.category]) ?_
  intro κ C
  show Go l _ Z _ _ _ κ [t] h0 0 #[.val (.ref u), .val (.int q), .unset, .unset, .unset, .unset, .unset, .unset] [] 0 0
  refine od' C 1 d41_0 rfl rfl rfl (og' C 4 d41_1 rfl (hq hw 68 rfl) Via.refl p3 (oj1' C 5 (Ls' := #[.val (.ref u), .val (.int q), .val (.ref t), .unset, .unset, .unset, .unset, .unset]) d41_4 rfl rfl rfl (om' C 7 (32 : Int32) d41_5 rfl (by decide) (ob' C 8 d41_7 rfl rfl ?_))))
  refine ow' C 9 ((32 : Int32) - q) d41_8 rfl rfl (oh' C 10 (Ls' := #[.val (.ref u), .val (.int q), .val (.ref t), .val (.int ((32 : Int32) - q)), .unset, .unset, .unset, .unset]) d41_9 rfl rfl (od' C 11 d41_10 rfl rfl rfl (og' C 14 d41_11 rfl (hq hw 49 rfl) Via.refl p1 (of' C 16 (Ls' := #[.val (.ref u), .val (.int q), .val (.ref t), .val (.int ((32 : Int32) - q)), .val (.int 0), .unset, .unset, .unset]) d41_14 rfl rfl ?_))))
  refine od' C 17 d41_16 rfl rfl rfl (oa' C 19 d41_17 rfl rfl (oa1' C 20 (v := (.int m0)) d41_19 rfl p4 (by decide) rfl (of' C 22 (Ls' := #[.val (.ref u), .val (.int q), .val (.ref t), .val (.int ((32 : Int32) - q)), .val (.int 0), .val (.int m0), .unset, .unset]) d41_20 rfl rfl (oa' C 24 d41_22 rfl rfl ?_))))
  refine od' C 25 d41_24 rfl rfl rfl (og' C 28 d41_25 rfl (hq hw 53 rfl) Via.refl p2 (oz' C 29 (2 : Int32) d41_28 rfl (by decide) (oe' C 30 (1 : Int32) d41_29 rfl (by decide) (ow' C 31 (1 : Int32) d41_30 rfl (by decide) ?_))))
  refine of' C 33 (Ls' := #[.val (.ref u), .val (.int q), .val (.ref t), .val (.int ((32 : Int32) - q)), .val (.int 0), .val (.int m0), .val (.int 1), .unset]) d41_31 rfl rfl (oa' C 35 d41_33 rfl rfl (oa' C 37 d41_35 rfl rfl (ol' C 40 d41_37 rfl (by decide) (oa' C 42 d41_40 rfl rfl ?_))))
  refine of' C 44 (Ls' := #[.val (.ref u), .val (.int q), .val (.ref t), .val (.int ((32 : Int32) - q)), .val (.int 0), .val (.int m0), .val (.int 1), .val (.int m0)]) d41_42 rfl rfl (od' C 45 d41_44 rfl rfl rfl (oa' C 47 d41_45 rfl rfl (oe' C 48 (1 : Int32) d41_47 rfl (by decide) (oz' C 49 (1 : Int32) d41_48 rfl (by decide) ?_))))
  refine oa1' C 50 (v := (.int m1)) d41_49 rfl p4 (by decide) rfl (of' C 52 (Ls' := #[.val (.ref u), .val (.int q), .val (.ref t), .val (.int ((32 : Int32) - q)), .val (.int 0), .val (.int m1), .val (.int 1), .val (.int m0)]) d41_50 rfl rfl (od' C 53 d41_52 rfl rfl rfl (oa' C 55 d41_53 rfl rfl (oa' C 57 d41_55 rfl rfl ?_))))
  refine ob' C 58 d41_57 rfl rfl (ox1' C 59 (m0 <<< (q &&& 31)) d41_58 rfl rfl (oa' C 61 d41_59 rfl rfl (ob' C 62 d41_61 rfl rfl (ok' C 63 (XT.ushr m1 ((32 : Int32) - q)) d41_62 rfl rfl ?_))))
  refine ok2' C 64 ((m0 <<< (q &&& 31)) ||| (XT.ushr m1 ((32 : Int32) - q))) d41_63 rfl rfl (oo1' C 65 0 d41_64 rfl p4 (by decide) rfl (nble rfl) (mi 0 rfl) ?_)
  intro ph1 W2 fx3
  have fx4 : Arv Z ph1 t kt .int 2 [(.int ((m0 <<< (q &&& 31)) ||| (XT.ushr m1 ((32 : Int32) - q)))), .int m1] (.int 0) := fx3
  refine oo' C 68 (Ls' := #[.val (.ref u), .val (.int q), .val (.ref t), .val (.int ((32 : Int32) - q)), .val (.int 1), .val (.int m1), .val (.int 1), .val (.int m0)]) (1 : Int32) d41_65 rfl (by decide) rfl rfl (os' C (pc' := 33) d41_68 (by decide) (by decide) (oa' C 35 d41_33 rfl rfl (oa' C 37 d41_35 rfl rfl (oj' C (pc' := 71) d41_37 (by decide) (by decide) (by decide) ?_))))
  refine od' C 72 d41_71 rfl rfl rfl (od' C 73 d41_72 rfl rfl rfl ?_)
  have fx5 := (Fld.other W2 p1 (Or.inl (Exa.neArv (Exa.wr W2 p0) fx4 (hq hw 42 rfl))))
  refine og' C 76 d41_73 rfl (hq hw 49 rfl) Via.refl fx5 (od' C 77 d41_76 rfl rfl rfl ?_)
  have fx6 := (Fld.other W2 p2 (Or.inl (Exa.neArv (Exa.wr W2 p0) fx4 (hq hw 42 rfl))))
  refine og' C 80 d41_77 rfl (hq hw 53 rfl) Via.refl fx6 (oz' C 81 (2 : Int32) d41_80 rfl (by decide) (oe' C 82 (1 : Int32) d41_81 rfl (by decide) (ow' C 83 (1 : Int32) d41_82 rfl (by decide) (oe2' C 84 d41_83 rfl rfl rfl ?_))))
  refine oa1' C 85 (v := (.int m1)) d41_84 rfl fx4 (by decide) rfl (ob' C 86 d41_85 rfl rfl (ox1' C 87 (m1 <<< (q &&& 31)) d41_86 rfl rfl (oo1' C 88 1 d41_87 rfl fx4 (by decide) rfl (nble rfl) (mi 0 rfl) ?_)))
  intro ph7 W8 fx9
  have fx10 : Arv Z ph7 t kt .int 2 [(.int ((m0 <<< (q &&& 31)) ||| (XT.ushr m1 ((32 : Int32) - q)))), (.int (m1 <<< (q &&& 31)))] (.int 0) := fx9
  refine oi' C d41_88 rfl (by decide) (by decide) ?_
  exact ⟨rfl, fx10⟩
theorem ct_rs0 (l : Launch) (Z : State) (a0 : Array Value) (hw : HW a0 Z) {one t1 zero t0 pos neg : Addr} {k1 k0 kp kn : ClassId} {pvs nvs : List Value} (am : Amb Z a0 one t1 zero t0 pos neg k1 k0 kp kn pvs nvs) {u t : Addr} {n : Int32} {h0 : Heap} (p0 : Exa Z h0 u "java/math/MutableBigInteger") (p1 : Fld Z h0 u "java/math/MutableBigInteger" "offset" "I" (.int 0)) (p2 : Fld Z h0 u "java/math/MutableBigInteger" "intLen" "I" (.int n)) (p3 : Fld Z h0 u "java/math/MutableBigInteger" "value" "[I" (.ref t)) (hn : ¬ (n = (0 : Int32))) :
    Py l Z (⟨"java/math/MutableBigInteger", "rightShift", "(I)V"⟩ : MethodName) 1 16 0 0 #[(.ref u), .int 0] h0 [u] (fun rv h' => rv = none ∧ Exa Z h' u "java/math/MutableBigInteger" ∧ Fld Z h' u "java/math/MutableBigInteger" "offset" "I" (.int 0) ∧ Fld Z h' u "java/math/MutableBigInteger" "intLen" "I" (.int n) ∧ Fld Z h' u "java/math/MutableBigInteger" "value" "[I" (.ref t)) := by
  refine Ct.py (by0 := y19) (ml := 5) (rt := none) (rm := ({ frames := 0, cells := 0, slots := 0, locals := 0 } : Room)) ?_ (hq hw 102 rfl) (hq hw 43 rfl)
  refine Ct.mk (a0 := a0) (Ls := #[.val (.ref u), .val (.int 0), .unset, .unset, .unset]) (plainFor_of_name pn_java_math_MutableBigInteger) (fun m => by simp [entryFrame, mkF, argsToLocals, Value.category]) ?_
  intro κ C
  show Go l _ Z _ _ _ κ [u] h0 0 #[.val (.ref u), .val (.int 0), .unset, .unset, .unset] [] 0 0
  refine od' C 1 d17_0 rfl rfl rfl (og' C 4 d17_1 rfl (hq hw 53 rfl) Via.refl p2 (on' C (pc' := 8) d17_4 (feq (hn : ¬ (n = (0 : Int32)))).2 (by decide) (by decide) (ob' C 9 d17_8 rfl rfl (oe' C 10 (5 : Int32) d17_9 rfl (by decide) ?_))))
  refine ok' C 11 (0 : Int32) d17_10 rfl (by decide) (oh' C 12 (Ls' := #[.val (.ref u), .val (.int 0), .val (.int 0), .unset, .unset]) d17_11 rfl rfl (ob' C 13 d17_12 rfl rfl (om' C 15 (31 : Int32) d17_13 rfl (by decide) (od1' C 16 (0 : Int32) d17_15 rfl (by decide) ?_))))
  refine oh' C 17 (Ls' := #[.val (.ref u), .val (.int 0), .val (.int 0), .val (.int 0), .unset]) d17_16 rfl rfl (od' C 18 d17_17 rfl rfl rfl (of1' C 19 d17_18 rfl rfl (og' C 22 d17_19 rfl (hq hw 53 rfl) Via.refl p2 (ob' C 23 d17_22 rfl rfl ?_))))
  refine ow' C 24 n d17_23 rfl (Int32.sub_zero _) (oi1' C 27 (ty := .int) d17_24 rfl (hq hw 53 rfl) Via.refl p2 p0 (Or.inl (hq hw 54 rfl)) (hq hw 42 rfl) (by decide) rfl rfl (mi 0 rfl) ?_)
  intro ph1 W2
  have fx3 : Fld Z ph1 u "java/math/MutableBigInteger" "intLen" "I" (.int n) := Fld.same W2 p2
  refine ob' C 28 d17_27 rfl rfl (or' C 31 d17_28 rfl (by decide) (oi' C d17_31 rfl (by decide) (by decide) ?_))
  have fx4 := (Exa.wr W2 p0)
  have fx5 := (Fld.other W2 p1 (Or.inr (slot_ne (Or.inl (hq hw 50 rfl)) (Or.inl (hq hw 54 rfl)) (by decide) (t := .int) (t' := .int) (by decide) (by decide))))
  have fx6 := (Fld.other W2 p3 (Or.inr (slot_ne (Or.inl (hq hw 69 rfl)) (Or.inl (hq hw 54 rfl)) (by decide) (t := (.array .int)) (t' := .int) (by decide) (by decide))))
  exact ⟨rfl, fx4, fx5, fx3, fx6⟩
theorem ct_rs1 (l : Launch) (Z : State) (a0 : Array Value) (hw : HW a0 Z) {one t1 zero t0 pos neg : Addr} {k1 k0 kp kn : ClassId} {pvs nvs : List Value} (am : Amb Z a0 one t1 zero t0 pos neg k1 k0 kp kn pvs nvs) {u t : Addr} {kt : ClassId} {x z : Int32} {h0 : Heap} (p0 : Exa Z h0 u "java/math/MutableBigInteger") (p1 : Fld Z h0 u "java/math/MutableBigInteger" "offset" "I" (.int 0)) (p2 : Fld Z h0 u "java/math/MutableBigInteger" "intLen" "I" (.int 1)) (p3 : Fld Z h0 u "java/math/MutableBigInteger" "value" "[I" (.ref t)) (p4 : Arv Z h0 t kt .int 1 [.int x] (.int 0)) (hx : ¬ (x = (0 : Int32))) (hz : Tz x z) :
    Py l Z (⟨"java/math/MutableBigInteger", "rightShift", "(I)V"⟩ : MethodName) 3 42 0 0 #[(.ref u), .int z] h0 [u, t] (fun rv h' => ∃ (n : Int32), rv = none ∧ Exa Z h' u "java/math/MutableBigInteger" ∧ Fld Z h' u "java/math/MutableBigInteger" "offset" "I" (.int 0) ∧ Fld Z h' u "java/math/MutableBigInteger" "intLen" "I" (.int 1) ∧ Fld Z h' u "java/math/MutableBigInteger" "value" "[I" (.ref t) ∧ Arv Z h' t kt .int 1 [.int n] (.int 0) ∧ (¬ (n = (0 : Int32)))) := by
  refine Ct.py (by0 := y19) (ml := 5) (rt := none) (rm := ({ frames := 2, cells := 0, slots := 0, locals := 26 } : Room)) ?_ (hq hw 102 rfl) (hq hw 43 rfl)
  refine Ct.mk (a0 := a0) (Ls := #[.val (.ref u), .val (.int z), .unset, .unset, .unset]) (plainFor_of_name pn_java_math_MutableBigInteger) (fun m => by simp [entryFrame, mkF, argsToLocals, Value.category]) ?_
  intro κ C
  show Go l _ Z _ _ _ κ [u, t] h0 0 #[.val (.ref u), .val (.int z), .unset, .unset, .unset] [] 0 0
  refine od' C 1 d17_0 rfl rfl rfl (og' C 4 d17_1 rfl (hq hw 53 rfl) Via.refl p2 (on' C (pc' := 8) d17_4 (by decide) (by decide) (by decide) (ob' C 9 d17_8 rfl rfl (oe' C 10 (5 : Int32) d17_9 rfl (by decide) ?_))))
  refine ok' C 11 (0 : Int32) d17_10 rfl (tz_5 hz) (oh' C 12 (Ls' := #[.val (.ref u), .val (.int z), .val (.int 0), .unset, .unset]) d17_11 rfl rfl (ob' C 13 d17_12 rfl rfl (om' C 15 (31 : Int32) d17_13 rfl (by decide) (od1' C 16 z d17_15 rfl (tz_31 hz) ?_))))
  refine oh' C 17 (Ls' := #[.val (.ref u), .val (.int z), .val (.int 0), .val (.int z), .unset]) d17_16 rfl rfl (od' C 18 d17_17 rfl rfl rfl (of1' C 19 d17_18 rfl rfl (og' C 22 d17_19 rfl (hq hw 53 rfl) Via.refl p2 (ob' C 23 d17_22 rfl rfl ?_))))
  refine ow' C 24 (1 : Int32) d17_23 rfl (by decide) (oi1' C 27 (ty := .int) d17_24 rfl (hq hw 53 rfl) Via.refl p2 p0 (Or.inl (hq hw 54 rfl)) (hq hw 42 rfl) (by decide) rfl rfl (mi 0 rfl) ?_)
  intro ph1 W2
  have fx3 : Fld Z ph1 u "java/math/MutableBigInteger" "intLen" "I" (.int 1) := Fld.same W2 p2
  refine ob' C 28 d17_27 rfl rfl ?_
  by_cases hk0 : z = (0 : Int32)
  · skip
    refine or' C 31 d17_28 rfl (teq hk0).2 (oi' C d17_31 rfl (by decide) (by decide) ?_)
    have fx4 := (Exa.wr W2 p0)
    have fx5 := (Fld.other W2 p1 (Or.inr (slot_ne (Or.inl (hq hw 50 rfl)) (Or.inl (hq hw 54 rfl)) (by decide) (t := .int) (t' := .int) (by decide) (by decide))))
    have fx6 := (Fld.other W2 p3 (Or.inr (slot_ne (Or.inl (hq hw 69 rfl)) (Or.inl (hq hw 54 rfl)) (by decide) (t := (.array .int)) (t' := .int) (by decide) (by decide))))
    have fx7 := (p4.other W2 (Ne.symm (Exa.neArv p0 p4 (hq hw 42 rfl))))
    exact ⟨x, rfl, fx4, fx5, fx3, fx6, fx7, hx⟩
  · skip
    refine on' C (pc' := 32) d17_28 (feq hk0).2 (by decide) (by decide) (od' C 33 d17_32 rfl rfl rfl ?_)
    have fx8 := (Fld.other W2 p3 (Or.inr (slot_ne (Or.inl (hq hw 69 rfl)) (Or.inl (hq hw 54 rfl)) (by decide) (t := (.array .int)) (t' := .int) (by decide) (by decide))))
    refine og' C 36 d17_33 rfl (hq hw 68 rfl) Via.refl fx8 (od' C 37 d17_36 rfl rfl rfl ?_)
    have fx9 := (Fld.other W2 p1 (Or.inr (slot_ne (Or.inl (hq hw 50 rfl)) (Or.inl (hq hw 54 rfl)) (by decide) (t := .int) (t' := .int) (by decide) (by decide))))
    refine og' C 40 d17_37 rfl (hq hw 49 rfl) Via.refl fx9 ?_
    have fx10 := (p4.other W2 (Ne.symm (Exa.neArv p0 p4 (hq hw 42 rfl))))
    refine oa1' C 41 (v := (.int x)) d17_40 rfl fx10 (by decide) rfl (oc1' C (argsL := [.int x]) (W := 0) d17_41 (hq hw 198 rfl) (hq hw 199 rfl) (hq hw 8 rfl) (hq hw 200 rfl) (by decide) pd__I_I (ct_bli l Z a0 hw am (x := x) hx) rfl (Nat.le_of_eq rfl) rfl (by decide) mems0 ?_)
    intro fv11 ph12 K13 fq14
    obtain ⟨b15, rfl, rfl, fx16⟩ := fq14
    refine ⟨[], fresh0, ?_⟩
    show Go l _ Z _ _ _ κ _ _ 44 _ [.int b15] 0 0
    refine of' C 46 (Ls' := #[.val (.ref u), .val (.int z), .val (.int 0), .val (.int z), .val (.int b15)]) d17_44 rfl rfl (ob' C 47 d17_46 rfl rfl (oa' C 49 d17_47 rfl rfl (oj' C (pc' := 73) d17_49 (tlt ((Bl.of_tz hz fx16) : z < b15)).1 (by decide) (by decide) (od' C 74 d17_73 rfl rfl rfl ?_))))
    refine ob' C 75 d17_74 rfl rfl ?_
    have fx17 := (Exa.wr W2 p0)
    refine oq' C (a := u) (argsL := [.int z]) (W := 0) d17_75 (hq hw 204 rfl) (decl_of (hq hw 205 rfl) (hq hw 208 rfl)) (nfS (hq hw 207 rfl)) (hq hw 207 rfl) (hq hw 205 rfl) fx17 (by decide) pd__I_V (ct_pr1 l Z a0 hw am (u := u) (t := t) (kt := kt) (x := x) (z := z) fx17 fx9 fx3 fx8 fx10) rfl (Nat.le_of_eq rfl) rfl (by decide) (memsS (mi 1 rfl) mems0) ?_
    intro fv18 ph19 K20 fq21
    obtain ⟨rfl, fx22⟩ := fq21
    refine ⟨[], fresh0, ?_⟩
    show Go l _ Z _ _ _ κ _ _ 78 _ [] 0 0
    refine oi' C d17_78 rfl (by decide) (by decide) ?_
    have fx23 := (fx17.keep K20)
    have fx24 := (fx9.keep K20 (ninS (Exa.neArv ((Exa.wr W2 p0).keep K20) fx22 (hq hw 42 rfl)) nin0))
    have fx25 := (fx3.keep K20 (ninS (Exa.neArv ((Exa.wr W2 p0).keep K20) fx22 (hq hw 42 rfl)) nin0))
    have fx26 := (fx8.keep K20 (ninS (Exa.neArv ((Exa.wr W2 p0).keep K20) fx22 (hq hw 42 rfl)) nin0))
    exact ⟨(XT.ushr x z), rfl, fx23, fx24, fx25, fx26, fx22, (odd_ne (Tz.odd hz))⟩
theorem ct_rs3 (l : Launch) (Z : State) (a0 : Array Value) (hw : HW a0 Z) {one t1 zero t0 pos neg : Addr} {k1 k0 kp kn : ClassId} {pvs nvs : List Value} (am : Amb Z a0 one t1 zero t0 pos neg k1 k0 kp kn pvs nvs) {u t : Addr} {kt : ClassId} {m0 m1 z : Int32} {h0 : Heap} (p0 : Exa Z h0 u "java/math/MutableBigInteger") (p1 : Fld Z h0 u "java/math/MutableBigInteger" "offset" "I" (.int 0)) (p2 : Fld Z h0 u "java/math/MutableBigInteger" "intLen" "I" (.int 2)) (p3 : Fld Z h0 u "java/math/MutableBigInteger" "value" "[I" (.ref t)) (p4 : Arv Z h0 t kt .int 2 [.int m0, .int m1] (.int 0)) (h0z : ¬ (m0 = (0 : Int32))) (hz : Tz m0 z) :
    Py l Z (⟨"java/math/MutableBigInteger", "rightShift", "(I)V"⟩ : MethodName) 3 42 0 0 #[(.ref u), (.int ((32 : Int32) + z))] h0 [u, t] (fun rv h' => ∃ (n : Int32) (w : Int32), rv = none ∧ Exa Z h' u "java/math/MutableBigInteger" ∧ Fld Z h' u "java/math/MutableBigInteger" "offset" "I" (.int 0) ∧ Fld Z h' u "java/math/MutableBigInteger" "intLen" "I" (.int 1) ∧ Fld Z h' u "java/math/MutableBigInteger" "value" "[I" (.ref t) ∧ Arv Z h' t kt .int 2 [.int n, .int w] (.int 0) ∧ (¬ (n = (0 : Int32)))) := by
  refine Ct.py (by0 := y19) (ml := 5) (rt := none) (rm := ({ frames := 2, cells := 0, slots := 0, locals := 26 } : Room)) ?_ (hq hw 102 rfl) (hq hw 43 rfl)
  refine Ct.mk (a0 := a0) (Ls := #[.val (.ref u), .val (.int ((32 : Int32) + z)), .unset, .unset, .unset]) (plainFor_of_name pn_java_math_MutableBigInteger) (fun m => by simp [entryFrame, mkF, argsToLocals, Value.category]) ?_
  intro κ C
  show Go l _ Z _ _ _ κ [u, t] h0 0 #[.val (.ref u), .val (.int ((32 : Int32) + z)), .unset, .unset, .unset] [] 0 0
  refine od' C 1 d17_0 rfl rfl rfl (og' C 4 d17_1 rfl (hq hw 53 rfl) Via.refl p2 (on' C (pc' := 8) d17_4 (by decide) (by decide) (by decide) (ob' C 9 d17_8 rfl rfl (oe' C 10 (5 : Int32) d17_9 rfl (by decide) ?_))))
  refine ok' C 11 (1 : Int32) d17_10 rfl (tz32_5 hz) (oh' C 12 (Ls' := #[.val (.ref u), .val (.int ((32 : Int32) + z)), .val (.int 1), .unset, .unset]) d17_11 rfl rfl (ob' C 13 d17_12 rfl rfl (om' C 15 (31 : Int32) d17_13 rfl (by decide) (od1' C 16 z d17_15 rfl (tz32_31 hz) ?_))))
  refine oh' C 17 (Ls' := #[.val (.ref u), .val (.int ((32 : Int32) + z)), .val (.int 1), .val (.int z), .unset]) d17_16 rfl rfl (od' C 18 d17_17 rfl rfl rfl (of1' C 19 d17_18 rfl rfl (og' C 22 d17_19 rfl (hq hw 53 rfl) Via.refl p2 (ob' C 23 d17_22 rfl rfl ?_))))
  refine ow' C 24 (1 : Int32) d17_23 rfl (by decide) (oi1' C 27 (ty := .int) d17_24 rfl (hq hw 53 rfl) Via.refl p2 p0 (Or.inl (hq hw 54 rfl)) (hq hw 42 rfl) (by decide) rfl rfl (mi 0 rfl) ?_)
  intro ph1 W2
  have fx3 : Fld Z ph1 u "java/math/MutableBigInteger" "intLen" "I" (.int 1) := Fld.same W2 p2
  refine ob' C 28 d17_27 rfl rfl ?_
  by_cases hk0 : z = (0 : Int32)
  · skip
    refine or' C 31 d17_28 rfl (teq hk0).2 (oi' C d17_31 rfl (by decide) (by decide) ?_)
    have fx4 := (Exa.wr W2 p0)
    have fx5 := (Fld.other W2 p1 (Or.inr (slot_ne (Or.inl (hq hw 50 rfl)) (Or.inl (hq hw 54 rfl)) (by decide) (t := .int) (t' := .int) (by decide) (by decide))))
    have fx6 := (Fld.other W2 p3 (Or.inr (slot_ne (Or.inl (hq hw 69 rfl)) (Or.inl (hq hw 54 rfl)) (by decide) (t := (.array .int)) (t' := .int) (by decide) (by decide))))
    have fx7 := (p4.other W2 (Ne.symm (Exa.neArv p0 p4 (hq hw 42 rfl))))
    exact ⟨m0, m1, rfl, fx4, fx5, fx3, fx6, fx7, h0z⟩
  · skip
    refine on' C (pc' := 32) d17_28 (feq hk0).2 (by decide) (by decide) (od' C 33 d17_32 rfl rfl rfl ?_)
    have fx8 := (Fld.other W2 p3 (Or.inr (slot_ne (Or.inl (hq hw 69 rfl)) (Or.inl (hq hw 54 rfl)) (by decide) (t := (.array .int)) (t' := .int) (by decide) (by decide))))
    refine og' C 36 d17_33 rfl (hq hw 68 rfl) Via.refl fx8 (od' C 37 d17_36 rfl rfl rfl ?_)
    have fx9 := (Fld.other W2 p1 (Or.inr (slot_ne (Or.inl (hq hw 50 rfl)) (Or.inl (hq hw 54 rfl)) (by decide) (t := .int) (t' := .int) (by decide) (by decide))))
    refine og' C 40 d17_37 rfl (hq hw 49 rfl) Via.refl fx9 ?_
    have fx10 := (p4.other W2 (Ne.symm (Exa.neArv p0 p4 (hq hw 42 rfl))))
    refine oa1' C 41 (v := (.int m0)) d17_40 rfl fx10 (by decide) rfl (oc1' C (argsL := [.int m0]) (W := 0) d17_41 (hq hw 198 rfl) (hq hw 199 rfl) (hq hw 8 rfl) (hq hw 200 rfl) (by decide) pd__I_I (ct_bli l Z a0 hw am (x := m0) h0z) rfl (Nat.le_of_eq rfl) rfl (by decide) mems0 ?_)
    intro fv11 ph12 K13 fq14
    obtain ⟨b15, rfl, rfl, fx16⟩ := fq14
    refine ⟨[], fresh0, ?_⟩
    show Go l _ Z _ _ _ κ _ _ 44 _ [.int b15] 0 0
    refine of' C 46 (Ls' := #[.val (.ref u), .val (.int ((32 : Int32) + z)), .val (.int 1), .val (.int z), .val (.int b15)]) d17_44 rfl rfl (ob' C 47 d17_46 rfl rfl (oa' C 49 d17_47 rfl rfl (oj' C (pc' := 73) d17_49 (tlt ((Bl.of_tz hz fx16) : z < b15)).1 (by decide) (by decide) (od' C 74 d17_73 rfl rfl rfl ?_))))
    refine ob' C 75 d17_74 rfl rfl ?_
    have fx17 := (Exa.wr W2 p0)
    refine oq' C (a := u) (argsL := [.int z]) (W := 0) d17_75 (hq hw 204 rfl) (decl_of (hq hw 205 rfl) (hq hw 208 rfl)) (nfS (hq hw 207 rfl)) (hq hw 207 rfl) (hq hw 205 rfl) fx17 (by decide) pd__I_V (ct_pr1b l Z a0 hw am (u := u) (t := t) (kt := kt) (m0 := m0) (m1 := m1) (z := z) fx17 fx9 fx3 fx8 fx10) rfl (Nat.le_of_eq rfl) rfl (by decide) (memsS (mi 1 rfl) mems0) ?_
    intro fv18 ph19 K20 fq21
    obtain ⟨rfl, fx22⟩ := fq21
    refine ⟨[], fresh0, ?_⟩
    show Go l _ Z _ _ _ κ _ _ 78 _ [] 0 0
    refine oi' C d17_78 rfl (by decide) (by decide) ?_
    have fx23 := (fx17.keep K20)
    have fx24 := (fx9.keep K20 (ninS (Exa.neArv ((Exa.wr W2 p0).keep K20) fx22 (hq hw 42 rfl)) nin0))
    have fx25 := (fx3.keep K20 (ninS (Exa.neArv ((Exa.wr W2 p0).keep K20) fx22 (hq hw 42 rfl)) nin0))
    have fx26 := (fx8.keep K20 (ninS (Exa.neArv ((Exa.wr W2 p0).keep K20) fx22 (hq hw 42 rfl)) nin0))
    exact ⟨(XT.ushr m0 z), m1, rfl, fx23, fx24, fx25, fx26, fx22, (odd_ne (Tz.odd hz))⟩
theorem ct_rs2 (l : Launch) (Z : State) (a0 : Array Value) (hw : HW a0 Z) {one t1 zero t0 pos neg : Addr} {k1 k0 kp kn : ClassId} {pvs nvs : List Value} (am : Amb Z a0 one t1 zero t0 pos neg k1 k0 kp kn pvs nvs) {u t : Addr} {kt : ClassId} {m0 m1 z : Int32} {h0 : Heap} (p0 : Exa Z h0 u "java/math/MutableBigInteger") (p1 : Fld Z h0 u "java/math/MutableBigInteger" "offset" "I" (.int 0)) (p2 : Fld Z h0 u "java/math/MutableBigInteger" "intLen" "I" (.int 2)) (p3 : Fld Z h0 u "java/math/MutableBigInteger" "value" "[I" (.ref t)) (p4 : Arv Z h0 t kt .int 2 [.int m0, .int m1] (.int 0)) (h0z : ¬ (m0 = (0 : Int32))) (h1z : ¬ (m1 = (0 : Int32))) (hz : Tz m1 z) :
    Py l Z (⟨"java/math/MutableBigInteger", "rightShift", "(I)V"⟩ : MethodName) 3 42 0 0 #[(.ref u), .int z] h0 [u, t] (fun rv h' => (∃ (n : Int32) (w : Int32), rv = none ∧ Exa Z h' u "java/math/MutableBigInteger" ∧ Fld Z h' u "java/math/MutableBigInteger" "offset" "I" (.int 0) ∧ Fld Z h' u "java/math/MutableBigInteger" "intLen" "I" (.int 1) ∧ Fld Z h' u "java/math/MutableBigInteger" "value" "[I" (.ref t) ∧ Arv Z h' t kt .int 2 [.int n, .int w] (.int 0) ∧ (¬ (n = (0 : Int32)))) ∨ (∃ (n0 : Int32) (n1 : Int32), rv = none ∧ Exa Z h' u "java/math/MutableBigInteger" ∧ Fld Z h' u "java/math/MutableBigInteger" "offset" "I" (.int 0) ∧ Fld Z h' u "java/math/MutableBigInteger" "intLen" "I" (.int 2) ∧ Fld Z h' u "java/math/MutableBigInteger" "value" "[I" (.ref t) ∧ Arv Z h' t kt .int 2 [.int n0, .int n1] (.int 0) ∧ (¬ (n0 = (0 : Int32))) ∧ (¬ (n1 = (0 : Int32))) ∧ (uN n0 * 4294967296 + uN n1 ≤ uN m0 * 4294967296 + uN m1))) := by
  refine Ct.py (by0 := y19) (ml := 5) (rt := none) (rm := ({ frames := 2, cells := 0, slots := 0, locals := 26 } : Room)) ?_ (hq hw 102 rfl) (hq hw 43 rfl)
  refine Ct.mk (a0 := a0) (Ls := #[.val (.ref u), .val (.int z), .unset, .unset, .unset]) (plainFor_of_name pn_java_math_MutableBigInteger) (fun m => by simp [entryFrame, mkF, argsToLocals, Value.category]) ?_
  intro κ C
  show Go l _ Z _ _ _ κ [u, t] h0 0 #[.val (.ref u), .val (.int z), .unset, .unset, .unset] [] 0 0
  refine od' C 1 d17_0 rfl rfl rfl (og' C 4 d17_1 rfl (hq hw 53 rfl) Via.refl p2 (on' C (pc' := 8) d17_4 (by decide) (by decide) (by decide) (ob' C 9 d17_8 rfl rfl (oe' C 10 (5 : Int32) d17_9 rfl (by decide) ?_))))
  refine ok' C 11 (0 : Int32) d17_10 rfl (tz_5 hz) (oh' C 12 (Ls' := #[.val (.ref u), .val (.int z), .val (.int 0), .unset, .unset]) d17_11 rfl rfl (ob' C 13 d17_12 rfl rfl (om' C 15 (31 : Int32) d17_13 rfl (by decide) (od1' C 16 z d17_15 rfl (tz_31 hz) ?_))))
  refine oh' C 17 (Ls' := #[.val (.ref u), .val (.int z), .val (.int 0), .val (.int z), .unset]) d17_16 rfl rfl (od' C 18 d17_17 rfl rfl rfl (of1' C 19 d17_18 rfl rfl (og' C 22 d17_19 rfl (hq hw 53 rfl) Via.refl p2 (ob' C 23 d17_22 rfl rfl ?_))))
  refine ow' C 24 (2 : Int32) d17_23 rfl (by decide) (oi1' C 27 (ty := .int) d17_24 rfl (hq hw 53 rfl) Via.refl p2 p0 (Or.inl (hq hw 54 rfl)) (hq hw 42 rfl) (by decide) rfl rfl (mi 0 rfl) ?_)
  intro ph1 W2
  have fx3 : Fld Z ph1 u "java/math/MutableBigInteger" "intLen" "I" (.int 2) := Fld.same W2 p2
  refine ob' C 28 d17_27 rfl rfl ?_
  by_cases hk0 : z = (0 : Int32)
  · skip
    refine or' C 31 d17_28 rfl (teq hk0).2 (oi' C d17_31 rfl (by decide) (by decide) ?_)
    have fx4 := (Exa.wr W2 p0)
    have fx5 := (Fld.other W2 p1 (Or.inr (slot_ne (Or.inl (hq hw 50 rfl)) (Or.inl (hq hw 54 rfl)) (by decide) (t := .int) (t' := .int) (by decide) (by decide))))
    have fx6 := (Fld.other W2 p3 (Or.inr (slot_ne (Or.inl (hq hw 69 rfl)) (Or.inl (hq hw 54 rfl)) (by decide) (t := (.array .int)) (t' := .int) (by decide) (by decide))))
    have fx7 := (p4.other W2 (Ne.symm (Exa.neArv p0 p4 (hq hw 42 rfl))))
    exact Or.inr (⟨m0, m1, rfl, fx4, fx5, fx3, fx6, fx7, h0z, h1z, (Nat.le_refl _)⟩)
  · skip
    refine on' C (pc' := 32) d17_28 (feq hk0).2 (by decide) (by decide) (od' C 33 d17_32 rfl rfl rfl ?_)
    have fx8 := (Fld.other W2 p3 (Or.inr (slot_ne (Or.inl (hq hw 69 rfl)) (Or.inl (hq hw 54 rfl)) (by decide) (t := (.array .int)) (t' := .int) (by decide) (by decide))))
    refine og' C 36 d17_33 rfl (hq hw 68 rfl) Via.refl fx8 (od' C 37 d17_36 rfl rfl rfl ?_)
    have fx9 := (Fld.other W2 p1 (Or.inr (slot_ne (Or.inl (hq hw 50 rfl)) (Or.inl (hq hw 54 rfl)) (by decide) (t := .int) (t' := .int) (by decide) (by decide))))
    refine og' C 40 d17_37 rfl (hq hw 49 rfl) Via.refl fx9 ?_
    have fx10 := (p4.other W2 (Ne.symm (Exa.neArv p0 p4 (hq hw 42 rfl))))
    refine oa1' C 41 (v := (.int m0)) d17_40 rfl fx10 (by decide) rfl (oc1' C (argsL := [.int m0]) (W := 0) d17_41 (hq hw 198 rfl) (hq hw 199 rfl) (hq hw 8 rfl) (hq hw 200 rfl) (by decide) pd__I_I (ct_bli l Z a0 hw am (x := m0) h0z) rfl (Nat.le_of_eq rfl) rfl (by decide) mems0 ?_)
    intro fv11 ph12 K13 fq14
    obtain ⟨b15, rfl, rfl, fx16⟩ := fq14
    refine ⟨[], fresh0, ?_⟩
    show Go l _ Z _ _ _ κ _ _ 44 _ [.int b15] 0 0
    refine of' C 46 (Ls' := #[.val (.ref u), .val (.int z), .val (.int 0), .val (.int z), .val (.int b15)]) d17_44 rfl rfl (ob' C 47 d17_46 rfl rfl (oa' C 49 d17_47 rfl rfl ?_))
    by_cases hlt : z < b15
    · skip
      refine oj' C (pc' := 73) d17_49 (tlt hlt).1 (by decide) (by decide) (od' C 74 d17_73 rfl rfl rfl (ob' C 75 d17_74 rfl rfl ?_))
      have fx17 := (Exa.wr W2 p0)
      refine oq' C (a := u) (argsL := [.int z]) (W := 0) d17_75 (hq hw 204 rfl) (decl_of (hq hw 205 rfl) (hq hw 208 rfl)) (nfS (hq hw 207 rfl)) (hq hw 207 rfl) (hq hw 205 rfl) fx17 (by decide) pd__I_V (ct_pr2 l Z a0 hw am (u := u) (t := t) (kt := kt) (m0 := m0) (m1 := m1) (z := z) fx17 fx9 fx3 fx8 fx10) rfl (Nat.le_of_eq rfl) rfl (by decide) (memsS (mi 1 rfl) mems0) ?_
      intro fv18 ph19 K20 fq21
      obtain ⟨rfl, fx22⟩ := fq21
      refine ⟨[], fresh0, ?_⟩
      show Go l _ Z _ _ _ κ _ _ 78 _ [] 0 0
      refine oi' C d17_78 rfl (by decide) (by decide) ?_
      have fx23 := (fx17.keep K20)
      have fx24 := (fx9.keep K20 (ninS (Exa.neArv ((Exa.wr W2 p0).keep K20) fx22 (hq hw 42 rfl)) nin0))
      have fx25 := (fx3.keep K20 (ninS (Exa.neArv ((Exa.wr W2 p0).keep K20) fx22 (hq hw 42 rfl)) nin0))
      have fx26 := (fx8.keep K20 (ninS (Exa.neArv ((Exa.wr W2 p0).keep K20) fx22 (hq hw 42 rfl)) nin0))
      exact Or.inr (⟨(XT.ushr m0 z), ((m0 <<< (((32 : Int32) - z) &&& (31 : Int32))) ||| (XT.ushr m1 z)), rfl, fx23, fx24, fx25, fx26, fx22, (Bl.shr fx16 hz hlt), (odd_ne (or_odd (Tz.odd hz))), (half_le (Bl.shr fx16 hz hlt) (Tz.half hz hk0))⟩)
    · skip
      refine ol' C 52 d17_49 rfl (flt hlt).1 (od' C 53 d17_52 rfl rfl rfl (om' C 55 (32 : Int32) d17_53 rfl (by decide) (ob' C 56 d17_55 rfl rfl (ow' C 57 ((32 : Int32) - z) d17_56 rfl rfl ?_))))
      have fx27 := (Exa.wr W2 p0)
      refine oq' C (a := u) (argsL := [(.int ((32 : Int32) - z))]) (W := 0) d17_57 (hq hw 225 rfl) (decl_of (hq hw 226 rfl) (hq hw 229 rfl)) (nfS (hq hw 228 rfl)) (hq hw 228 rfl) (hq hw 226 rfl) fx27 (by decide) pd__I_V (ct_pl2 l Z a0 hw am (u := u) (t := t) (kt := kt) (m0 := m0) (m1 := m1) (q := ((32 : Int32) - z)) fx27 fx9 fx3 fx8 fx10) rfl (Nat.le_of_eq rfl) rfl (by decide) (memsS (mi 1 rfl) mems0) ?_
      intro fv28 ph29 K30 fq31
      obtain ⟨rfl, fx32⟩ := fq31
      refine ⟨[], fresh0, ?_⟩
      show Go l _ Z _ _ _ κ _ _ 60 _ [] 0 0
      refine od' C 61 d17_60 rfl rfl rfl (of1' C 62 d17_61 rfl rfl ?_)
      have fx33 := (fx3.keep K30 (ninS (Exa.neArv ((Exa.wr W2 p0).keep K30) fx32 (hq hw 42 rfl)) nin0))
      refine og' C 65 d17_62 rfl (hq hw 53 rfl) Via.refl fx33 (oe' C 66 (1 : Int32) d17_65 rfl (by decide) (ow' C 67 (1 : Int32) d17_66 rfl (by decide) ?_))
      have fx34 := (fx27.keep K30)
      refine oi1' C 70 (ty := .int) d17_67 rfl (hq hw 53 rfl) Via.refl fx33 fx34 (Or.inl (hq hw 54 rfl)) (hq hw 42 rfl) (by decide) rfl rfl (mi 0 rfl) ?_
      intro ph35 W36
      have fx37 : Fld Z ph35 u "java/math/MutableBigInteger" "intLen" "I" (.int 1) := Fld.same W36 fx33
      refine os' C (pc' := 78) d17_70 (by decide) (by decide) (oi' C d17_78 rfl (by decide) (by decide) ?_)
      have fx38 := (Exa.wr W36 fx34)
      have fx39 := (Fld.other W36 (fx9.keep K30 (ninS (Exa.neArv ((Exa.wr W2 p0).keep K30) fx32 (hq hw 42 rfl)) nin0)) (Or.inr (slot_ne (Or.inl (hq hw 50 rfl)) (Or.inl (hq hw 54 rfl)) (by decide) (t := .int) (t' := .int) (by decide) (by decide))))
      have fx40 := (Fld.other W36 (fx8.keep K30 (ninS (Exa.neArv ((Exa.wr W2 p0).keep K30) fx32 (hq hw 42 rfl)) nin0)) (Or.inr (slot_ne (Or.inl (hq hw 69 rfl)) (Or.inl (hq hw 54 rfl)) (by decide) (t := (.array .int)) (t' := .int) (by decide) (by decide))))
      have fx41 := (fx32.other W36 (Ne.symm (Exa.neArv ((Exa.wr W2 p0).keep K30) fx32 (hq hw 42 rfl))))
      exact Or.inl ⟨((m0 <<< (((32 : Int32) - z) &&& (31 : Int32))) ||| (XT.ushr m1 ((32 : Int32) - ((32 : Int32) - z)))), (m1 <<< (((32 : Int32) - z) &&& (31 : Int32))), rfl, fx38, fx39, fx37, fx40, fx41, (odd_ne (or_odd (by rw [sub_sub32]; exact Tz.odd hz)))⟩
theorem ct_cmp21 (l : Launch) (Z : State) (a0 : Array Value) (hw : HW a0 Z) {one t1 zero t0 pos neg : Addr} {k1 k0 kp kn : ClassId} {pvs nvs : List Value} (am : Amb Z a0 one t1 zero t0 pos neg k1 k0 kp kn pvs nvs) {u t : Addr} {kt : ClassId} {m0 m1 : Int32} {v s : Addr} {ks : ClassId} {h0 : Heap} (p0 : Exa Z h0 u "java/math/MutableBigInteger") (p1 : Fld Z h0 u "java/math/MutableBigInteger" "offset" "I" (.int 0)) (p2 : Fld Z h0 u "java/math/MutableBigInteger" "intLen" "I" (.int 2)) (p3 : Fld Z h0 u "java/math/MutableBigInteger" "value" "[I" (.ref t)) (p4 : Arv Z h0 t kt .int 2 [.int m0, .int m1] (.int 0)) (p5 : Exa Z h0 v "java/math/MutableBigInteger") (p6 : Fld Z h0 v "java/math/MutableBigInteger" "offset" "I" (.int 0)) (p7 : Fld Z h0 v "java/math/MutableBigInteger" "intLen" "I" (.int 1)) (p8 : Fld Z h0 v "java/math/MutableBigInteger" "value" "[I" (.ref s)) (p9 : Arv Z h0 s ks .int 1 [.int 1] (.int 0)) :
    Py l Z (⟨"java/math/MutableBigInteger", "compare", "(Ljava/math/MutableBigInteger;)I"⟩ : MethodName) 1 19 0 0 #[(.ref u), (.ref v)] h0 [] (fun rv h' => rv = some (.int 1) ∧ h' = h0) := by
  refine Ct.py (by0 := y15) (ml := 8) (rt := (some .int)) (rm := ({ frames := 0, cells := 0, slots := 0, locals := 0 } : Room)) ?_ (hq hw 218 rfl) (hq hw 43 rfl)
  refine Ct.mk (a0 := a0) (Ls := #[.val (.ref u), .val (.ref v), .unset, .unset, .unset, .unset, .unset, .unset]) (plainFor_of_name pn_java_math_MutableBigInteger) (fun m => by simp [entryFrame, mkF, argsToLocals, Value.category]) ?_
  intro κ C
  show Go l _ Z _ _ _ κ [] h0 0 #[.val (.ref u), .val (.ref v), .unset, .unset, .unset, .unset, .unset, .unset] [] 0 0
  refine od' C 1 d39_0 rfl rfl rfl (og' C 4 d39_1 rfl (hq hw 53 rfl) Via.refl p7 (oh' C 5 (Ls' := #[.val (.ref u), .val (.ref v), .val (.int 1), .unset, .unset, .unset, .unset, .unset]) d39_4 rfl rfl (od' C 6 d39_5 rfl rfl rfl (og' C 9 d39_6 rfl (hq hw 53 rfl) Via.refl p2 ?_))))
  refine ob' C 10 d39_9 rfl rfl (oj' C (pc' := 15) d39_10 (by decide) (by decide) (by decide) (od' C 16 d39_15 rfl rfl rfl (og' C 19 d39_16 rfl (hq hw 53 rfl) Via.refl p2 (ob' C 20 d39_19 rfl rfl ?_))))
  refine ol' C 23 d39_20 rfl (by decide) (oe' C 24 (1 : Int32) d39_23 rfl (by decide) (op' C d39_24 rfl (by decide) (by decide) ?_))
  exact ⟨rfl, rfl⟩
theorem ct_norm (l : Launch) (Z : State) (a0 : Array Value) (hw : HW a0 Z) {one t1 zero t0 pos neg : Addr} {k1 k0 kp kn : ClassId} {pvs nvs : List Value} (am : Amb Z a0 one t1 zero t0 pos neg k1 k0 kp kn pvs nvs) {u t : Addr} {kt : ClassId} {m0 m1 : Int32} {h0 : Heap} (p0 : Exa Z h0 u "java/math/MutableBigInteger") (p1 : Fld Z h0 u "java/math/MutableBigInteger" "offset" "I" (.int 0)) (p2 : Fld Z h0 u "java/math/MutableBigInteger" "intLen" "I" (.int 2)) (p3 : Fld Z h0 u "java/math/MutableBigInteger" "value" "[I" (.ref t)) (p4 : Arv Z h0 t kt .int 2 [.int m0, .int m1] (.int 0)) (h0z : ¬ (m0 = (0 : Int32))) :
    Py l Z (⟨"java/math/MutableBigInteger", "normalize", "()V"⟩ : MethodName) 1 15 0 0 #[(.ref u)] h0 [] (fun rv h' => rv = none ∧ h' = h0) := by
  refine Ct.py (by0 := y18) (ml := 4) (rt := none) (rm := ({ frames := 0, cells := 0, slots := 0, locals := 0 } : Room)) ?_ (hq hw 224 rfl) (hq hw 43 rfl)
  refine Ct.mk (a0 := a0) (Ls := #[.val (.ref u), .unset, .unset, .unset]) (plainFor_of_name pn_java_math_MutableBigInteger) (fun m => by simp [entryFrame, mkF, argsToLocals, Value.category]) ?_
  intro κ C
  show Go l _ Z _ _ _ κ [] h0 0 #[.val (.ref u), .unset, .unset, .unset] [] 0 0
  refine od' C 1 d40_0 rfl rfl rfl (og' C 4 d40_1 rfl (hq hw 53 rfl) Via.refl p2 (on' C (pc' := 13) d40_4 (by decide) (by decide) (by decide) (od' C 14 d40_13 rfl rfl rfl (og' C 17 d40_14 rfl (hq hw 49 rfl) Via.refl p1 ?_))))
  refine oh' C 18 (Ls' := #[.val (.ref u), .val (.int 0), .unset, .unset]) d40_17 rfl rfl (od' C 19 d40_18 rfl rfl rfl (og' C 22 d40_19 rfl (hq hw 68 rfl) Via.refl p3 (ob' C 23 d40_22 rfl rfl (oa1' C 24 (v := (.int m0)) d40_23 rfl p4 (by decide) rfl ?_))))
  refine or' C 27 d40_24 rfl (feq (h0z : ¬ (m0 = (0 : Int32)))).1 (oi' C d40_27 rfl (by decide) (by decide) ?_)
  exact ⟨rfl, rfl⟩
theorem ct_diff (l : Launch) (Z : State) (a0 : Array Value) (hw : HW a0 Z) {one t1 zero t0 pos neg : Addr} {k1 k0 kp kn : ClassId} {pvs nvs : List Value} (am : Amb Z a0 one t1 zero t0 pos neg k1 k0 kp kn pvs nvs) {u t : Addr} {kt : ClassId} {m0 m1 : Int32} {v s : Addr} {ks : ClassId} {h0 : Heap} (p0 : Exa Z h0 u "java/math/MutableBigInteger") (p1 : Fld Z h0 u "java/math/MutableBigInteger" "offset" "I" (.int 0)) (p2 : Fld Z h0 u "java/math/MutableBigInteger" "intLen" "I" (.int 2)) (p3 : Fld Z h0 u "java/math/MutableBigInteger" "value" "[I" (.ref t)) (p4 : Arv Z h0 t kt .int 2 [.int m0, .int m1] (.int 0)) (p5 : Exa Z h0 v "java/math/MutableBigInteger") (p6 : Fld Z h0 v "java/math/MutableBigInteger" "offset" "I" (.int 0)) (p7 : Fld Z h0 v "java/math/MutableBigInteger" "intLen" "I" (.int 1)) (p8 : Fld Z h0 v "java/math/MutableBigInteger" "value" "[I" (.ref s)) (p9 : Arv Z h0 s ks .int 1 [.int 1] (.int 0)) (h0z : ¬ (m0 = (0 : Int32))) (h1z : ¬ (m1 = (0 : Int32))) (huv : u ≠ v) (hts : t ≠ s) :
    Py l Z (⟨"java/math/MutableBigInteger", "difference", "(Ljava/math/MutableBigInteger;)I"⟩ : MethodName) 2 38 0 0 #[(.ref u), (.ref v)] h0 [t] (fun rv h' => rv = some (.int 1) ∧ Arv Z h' t kt .int 2 [.int m0, (.int (m1 - (1 : Int32)))] (.int 0)) := by
  refine Ct.py (by0 := y23) (ml := 8) (rt := (some .int)) (rm := ({ frames := 1, cells := 0, slots := 0, locals := 19 } : Room)) ?_ (hq hw 213 rfl) (hq hw 43 rfl)
  refine Ct.mk (a0 := a0) (Ls := #[.val (.ref u), .val (.ref v), .unset, .unset, .unset, .unset, .unset, .unset]) (plainFor_of_name pn_java_math_MutableBigInteger) (fun m => by simp [entryFrame, mkF, argsToLocals, Value.category]) ?_
  intro κ C
  show Go l _ Z _ _ _ κ [t] h0 0 #[.val (.ref u), .val (.ref v), .unset, .unset, .unset, .unset, .unset, .unset] [] 0 0
  refine od' C 1 d38_0 rfl rfl rfl (oj1' C 2 (Ls' := #[.val (.ref u), .val (.ref v), .val (.ref u), .unset, .unset, .unset, .unset, .unset]) d38_1 rfl rfl rfl (od' C 3 d38_2 rfl rfl rfl (od' C 4 d38_3 rfl rfl rfl (oq' C (a := u) (argsL := [(.ref v)]) (W := 0) d38_4 (hq hw 214 rfl) (hq hw 215 rfl) (nfS (hq hw 217 rfl)) (hq hw 217 rfl) (hq hw 216 rfl) p0 (by decide) pd__Ljava_math_MutableBigInteger__I (ct_cmp21 l Z a0 hw am (u := u) (t := t) (kt := kt) (m0 := m0) (m1 := m1) (v := v) (s := s) (ks := ks) p0 p1 p2 p3 p4 p5 p6 p7 p8 p9) rfl (Nat.le_of_eq rfl) rfl (by decide) mems0 ?_))))
  intro fv1 ph2 K3 fq4
  obtain ⟨rfl, rfl⟩ := fq4
  refine ⟨[], fresh0, ?_⟩
  show Go l _ Z _ _ _ κ _ _ 7 _ [.int 1] 0 0
  refine oh' C 8 (Ls' := #[.val (.ref u), .val (.ref v), .val (.ref u), .val (.int 1), .unset, .unset, .unset, .unset]) d38_7 rfl rfl (ob' C 9 d38_8 rfl rfl (on' C (pc' := 14) d38_9 (by decide) (by decide) (by decide) (ob' C 15 d38_14 rfl rfl (on' C (pc' := 26) d38_15 (by decide) (by decide) (by decide) ?_))))
  refine on1' C 27 (0 : Int64) d38_26 rfl (by decide) (ob2' C 29 (Ls' := #[.val (.ref u), .val (.ref v), .val (.ref u), .val (.int 1), .val (.long (0 : Int64)), .second, .unset, .unset]) d38_27 rfl rfl (od' C 30 d38_29 rfl rfl rfl (og' C 33 d38_30 rfl (hq hw 53 rfl) Via.refl p2 (of' C 35 (Ls' := #[.val (.ref u), .val (.ref v), .val (.ref u), .val (.int 1), .val (.long (0 : Int64)), .second, .val (.int 2), .unset]) d38_33 rfl rfl ?_))))
  refine od' C 36 d38_35 rfl rfl rfl (og' C 39 d38_36 rfl (hq hw 53 rfl) Via.refl p7 (of' C 41 (Ls' := #[.val (.ref u), .val (.ref v), .val (.ref u), .val (.int 1), .val (.long (0 : Int64)), .second, .val (.int 2), .val (.int 1)]) d38_39 rfl rfl (oa' C 43 d38_41 rfl rfl (or' C 46 d38_43 rfl (by decide) ?_))))
  refine oo' C 49 (Ls' := #[.val (.ref u), .val (.ref v), .val (.ref u), .val (.int 1), .val (.long (0 : Int64)), .second, .val (.int 1), .val (.int 1)]) (-1 : Int32) d38_46 rfl (by decide) rfl rfl (oo' C 52 (Ls' := #[.val (.ref u), .val (.ref v), .val (.ref u), .val (.int 1), .val (.long (0 : Int64)), .second, .val (.int 1), .val (.int 0)]) (-1 : Int32) d38_49 rfl (by decide) rfl rfl (od' C 53 d38_52 rfl rfl rfl (og' C 56 d38_53 rfl (hq hw 68 rfl) Via.refl p3 (od' C 57 d38_56 rfl rfl rfl ?_))))
  refine og' C 60 d38_57 rfl (hq hw 49 rfl) Via.refl p1 (oa' C 62 d38_60 rfl rfl (oz' C 63 (1 : Int32) d38_62 rfl (by decide) (oa1' C 64 (v := (.int m1)) d38_63 rfl p4 (by decide) rfl (ow1' C 65 (m1.toInt64) d38_64 rfl rfl ?_))))
  refine oq1' C 68 (v := (4294967295 : Int64)) d38_65 rfl (hq hw 219 rfl) (ou1' C 69 ((m1.toInt64) &&& (4294967295 : Int64)) d38_68 rfl rfl (od' C 70 d38_69 rfl rfl rfl (og' C 73 d38_70 rfl (hq hw 68 rfl) Via.refl p8 (od' C 74 d38_73 rfl rfl rfl ?_))))
  refine og' C 77 d38_74 rfl (hq hw 49 rfl) Via.refl p6 (oa' C 79 d38_77 rfl rfl (oz' C 80 (0 : Int32) d38_79 rfl (by decide) (oa1' C 81 (v := (.int 1)) d38_80 rfl p9 (by decide) rfl (ow1' C 82 (1 : Int64) d38_81 rfl (by decide) ?_))))
  refine oq1' C 85 (v := (4294967295 : Int64)) d38_82 rfl (hq hw 219 rfl) (ou1' C 86 ((1 : Int64) &&& (4294967295 : Int64)) d38_85 rfl rfl (op2' C 87 (((m1.toInt64) &&& (4294967295 : Int64)) - ((1 : Int64) &&& (4294967295 : Int64))) d38_86 rfl rfl (ot' C 89 d38_87 rfl rfl (om' C 91 (32 : Int32) d38_89 rfl (by decide) ?_))))
  refine oq2' C 92 ((0 : Int64) >>> (((32 : Int32)).toInt64 &&& 63)) d38_91 rfl rfl (oo2' C 93 (dif m1) d38_92 rfl rfl (ob2' C 95 (Ls' := #[.val (.ref u), .val (.ref v), .val (.ref u), .val (.int 1), .val (.long (dif m1)), .second, .val (.int 1), .val (.int 0)]) d38_93 rfl rfl (od' C 96 d38_95 rfl rfl rfl (og' C 99 d38_96 rfl (hq hw 68 rfl) Via.refl p3 ?_))))
  refine od' C 100 d38_99 rfl rfl rfl (og' C 103 d38_100 rfl (hq hw 49 rfl) Via.refl p1 (oa' C 105 d38_103 rfl rfl (oz' C 106 (1 : Int32) d38_105 rfl (by decide) (ot' C 108 d38_106 rfl rfl ?_))))
  refine or1' C 109 (m1 - (1 : Int32)) d38_108 rfl (dif_lo _) (oo1' C 110 1 d38_109 rfl p4 (by decide) rfl (nble rfl) (mi 0 rfl) ?_)
  intro ph5 W6 fx7
  have fx8 : Arv Z ph5 t kt .int 2 [.int m0, (.int (m1 - (1 : Int32)))] (.int 0) := fx7
  refine os' C (pc' := 41) d38_110 (by decide) (by decide) (oa' C 43 d38_41 rfl rfl (on' C (pc' := 113) d38_43 (by decide) (by decide) (by decide) (ot' C 115 d38_113 rfl rfl (on1' C 116 (0 : Int64) d38_115 rfl (by decide) ?_))))
  refine oh1' C 117 (XT.cmpL (dif m1) (0 : Int64)) d38_116 rfl rfl (on' C (pc' := 171) d38_117 (flt ((dif_nn h1z) : ¬ ((XT.cmpL (dif m1) (0 : Int64)) < (0 : Int32)))).2.1 (by decide) (by decide) (od' C 172 d38_171 rfl rfl rfl ?_))
  have fx9 := (Exa.wr W6 p0)
  have fx10 := (Fld.other W6 p1 (Or.inl (Exa.neArv (Exa.wr W6 p0) fx8 (hq hw 42 rfl))))
  have fx11 := (Fld.other W6 p2 (Or.inl (Exa.neArv (Exa.wr W6 p0) fx8 (hq hw 42 rfl))))
  have fx12 := (Fld.other W6 p3 (Or.inl (Exa.neArv (Exa.wr W6 p0) fx8 (hq hw 42 rfl))))
  refine oq' C (a := u) (argsL := []) (W := 0) d38_172 (hq hw 220 rfl) (hq hw 221 rfl) (nfS (hq hw 223 rfl)) (hq hw 223 rfl) (hq hw 222 rfl) fx9 (by decide) pd___V (ct_norm l Z a0 hw am (u := u) (t := t) (kt := kt) (m0 := m0) (m1 := (m1 - (1 : Int32))) fx9 fx10 fx11 fx12 fx8 h0z) rfl (Nat.le_of_eq rfl) rfl (by decide) mems0 ?_
  intro fv13 ph14 K15 fq16
  obtain ⟨rfl, rfl⟩ := fq16
  refine ⟨[], fresh0, ?_⟩
  show Go l _ Z _ _ _ κ _ _ 175 _ [] 0 0
  refine ob' C 176 d38_175 rfl rfl (op' C d38_176 rfl (by decide) (by decide) ?_)
  exact ⟨rfl, fx8⟩
theorem ct_mbi0 (l : Launch) (Z : State) (a0 : Array Value) (hw : HW a0 Z) {one t1 zero t0 pos neg : Addr} {k1 k0 kp kn : ClassId} {pvs nvs : List Value} (am : Amb Z a0 one t1 zero t0 pos neg k1 k0 kp kn pvs nvs) {u : Addr} {h0 : Heap} (p0 : Exa Z h0 u "java/math/MutableBigInteger") (p1 : Fld Z h0 u "java/math/MutableBigInteger" "offset" "I" (.int 0)) (p2 : Fld Z h0 u "java/math/MutableBigInteger" "intLen" "I" (.int 0)) (p3 : Fld Z h0 u "java/math/MutableBigInteger" "value" "[I" .null) :
    Py l Z (⟨"java/math/MutableBigInteger", "<init>", "()V"⟩ : MethodName) 2 24 1 1 #[(.ref u)] h0 [u] (fun rv h' => ∃ (t : Addr) (kt : ClassId), rv = none ∧ Exa Z h' u "java/math/MutableBigInteger" ∧ Fld Z h' u "java/math/MutableBigInteger" "offset" "I" (.int 0) ∧ Fld Z h' u "java/math/MutableBigInteger" "intLen" "I" (.int 0) ∧ Fld Z h' u "java/math/MutableBigInteger" "value" "[I" (.ref t) ∧ Arv Z h' t kt .int 1 [.int 0] (.int 0) ∧ (h0.size ≤ t)) := by
  refine Ct.py (by0 := y17) (ml := 1) (rt := none) (rm := ({ frames := 1, cells := 1, slots := 1, locals := 12 } : Room)) ?_ (hq hw 78 rfl) (hq hw 43 rfl)
  refine Ct.mk (a0 := a0) (Ls := #[.val (.ref u)]) (plainFor_of_name pn_java_math_MutableBigInteger) (fun m => by simp [entryFrame, mkF, argsToLocals, Value.category]) ?_
  intro κ C
  show Go l _ Z _ _ _ κ [u] h0 0 #[.val (.ref u)] [] 0 0
  refine od' C 1 d12_0 rfl rfl rfl (oa2' C 4 (W := 0) d12_1 rfl (hq hw 48 rfl) (hq hw 17 rfl) (hq hw 18 rfl) rfl (by decide) (Nat.le_of_eq rfl) (by decide) (od' C 5 d12_4 rfl rfl rfl (oe' C 6 (0 : Int32) d12_5 rfl (by decide) (oi1' C 9 (ty := .int) d12_6 rfl (hq hw 49 rfl) Via.refl p1 p0 (Or.inl (hq hw 50 rfl)) (hq hw 42 rfl) (by decide) rfl rfl (mi 0 rfl) ?_))))
  intro ph1 W2
  have fx3 : Fld Z ph1 u "java/math/MutableBigInteger" "offset" "I" (.int 0) := Fld.same W2 p1
  refine od' C 10 d12_9 rfl rfl rfl (oe' C 11 (1 : Int32) d12_10 rfl (by decide) (oy1' C 13 1 1 (ty := .int) (cap := 1) d12_11 rfl rfl rfl rfl (hq hw 79 rfl) (by decide) (by decide) (by decide) (by decide) (by decide) ?_))
  intro b4 ph5 k6 g7 E8 V9 X10
  have fx11 : Arv Z ph5 b4 k6 .int 1 [.int 0] (.int 0) := V9
  have fx12 := (Fld.ext E8 (Fld.other W2 p3 (Or.inr (slot_ne (Or.inl (hq hw 69 rfl)) (Or.inl (hq hw 50 rfl)) (by decide) (t := (.array .int)) (t' := .int) (by decide) (by decide)))))
  have fx13 := (Exa.ext E8 (Exa.wr W2 p0))
  refine oi1' C 16 (ty := (.array .int)) d12_13 rfl (hq hw 68 rfl) Via.refl fx12 fx13 (Or.inl (hq hw 69 rfl)) (hq hw 42 rfl) (by decide) rfl rfl (mi 1 rfl) ?_
  intro ph14 W15
  have fx16 : Fld Z ph14 u "java/math/MutableBigInteger" "value" "[I" (.ref b4) := Fld.same W15 fx12
  refine od' C 17 d12_16 rfl rfl rfl (oe' C 18 (0 : Int32) d12_17 rfl (by decide) ?_)
  have fx17 := (Fld.other W15 (Fld.ext E8 (Fld.other W2 p2 (Or.inr (slot_ne (Or.inl (hq hw 54 rfl)) (Or.inl (hq hw 50 rfl)) (by decide) (t := .int) (t' := .int) (by decide) (by decide))))) (Or.inr (slot_ne (Or.inl (hq hw 54 rfl)) (Or.inl (hq hw 69 rfl)) (by decide) (t := .int) (t' := (.array .int)) (by decide) (by decide))))
  have fx18 := (Exa.wr W15 fx13)
  refine oi1' C 21 (ty := .int) d12_18 rfl (hq hw 53 rfl) Via.refl fx17 fx18 (Or.inl (hq hw 54 rfl)) (hq hw 42 rfl) (by decide) rfl rfl (mi 1 rfl) ?_
  intro ph19 W20
  have fx21 : Fld Z ph19 u "java/math/MutableBigInteger" "intLen" "I" (.int 0) := Fld.same W20 fx17
  refine oi' C d12_21 rfl (by decide) (by decide) ?_
  have fx22 := (Exa.wr W20 fx18)
  have fx23 := (Fld.other W20 (Fld.other W15 (Fld.ext E8 fx3) (Or.inr (slot_ne (Or.inl (hq hw 50 rfl)) (Or.inl (hq hw 69 rfl)) (by decide) (t := .int) (t' := (.array .int)) (by decide) (by decide)))) (Or.inr (slot_ne (Or.inl (hq hw 50 rfl)) (Or.inl (hq hw 54 rfl)) (by decide) (t := .int) (t' := .int) (by decide) (by decide))))
  have fx24 := (Fld.other W20 fx16 (Or.inr (slot_ne (Or.inl (hq hw 69 rfl)) (Or.inl (hq hw 54 rfl)) (by decide) (t := (.array .int)) (t' := .int) (by decide) (by decide))))
  have fx25 := ((fx11.other W15 (Ne.symm (Nat.ne_of_lt (nltle (nltle (p0).lt (Nat.le_of_eq W2.size.symm)) (Nat.le_of_eq g7.symm))))).other W20 (Ne.symm (Nat.ne_of_lt (nltle (nltle (p0).lt (Nat.le_of_eq W2.size.symm)) (Nat.le_of_eq g7.symm)))))
  exact ⟨b4, k6, rfl, fx22, fx23, fx21, fx24, fx25, (Nat.le_trans (Nat.le_of_eq W2.size.symm) (Nat.le_of_eq g7.symm))⟩
theorem ct_bg1 (l : Launch) (Z : State) (a0 : Array Value) (hw : HW a0 Z) {one t1 zero t0 pos neg : Addr} {k1 k0 kp kn : ClassId} {pvs nvs : List Value} (am : Amb Z a0 one t1 zero t0 pos neg k1 k0 kp kn pvs nvs) {u t : Addr} {kt : ClassId} {x : Int32} {v s : Addr} {ks : ClassId} {h0 : Heap} (p0 : Exa Z h0 u "java/math/MutableBigInteger") (p1 : Fld Z h0 u "java/math/MutableBigInteger" "offset" "I" (.int 0)) (p2 : Fld Z h0 u "java/math/MutableBigInteger" "intLen" "I" (.int 1)) (p3 : Fld Z h0 u "java/math/MutableBigInteger" "value" "[I" (.ref t)) (p4 : Arv Z h0 t kt .int 1 [.int x] (.int 0)) (p5 : Exa Z h0 v "java/math/MutableBigInteger") (p6 : Fld Z h0 v "java/math/MutableBigInteger" "offset" "I" (.int 0)) (p7 : Fld Z h0 v "java/math/MutableBigInteger" "intLen" "I" (.int 1)) (p8 : Fld Z h0 v "java/math/MutableBigInteger" "value" "[I" (.ref s)) (p9 : Arv Z h0 s ks .int 1 [.int 1] (.int 0)) (hx : ¬ (x = (0 : Int32))) (huv : u ≠ v) (hts : t ≠ s) :
    Py l Z (⟨"java/math/MutableBigInteger", "binaryGCD", "(Ljava/math/MutableBigInteger;)Ljava/math/MutableBigInteger;"⟩ : MethodName) 4 66 2 4 #[(.ref u), (.ref v)] h0 [u, t, v] (fun rv h' => ∃ (r : Addr) (rt : Addr) (kr : ClassId), rv = some (.ref r) ∧ Exa Z h' r "java/math/MutableBigInteger" ∧ Fld Z h' r "java/math/MutableBigInteger" "offset" "I" (.int 0) ∧ Fld Z h' r "java/math/MutableBigInteger" "intLen" "I" (.int 1) ∧ Fld Z h' r "java/math/MutableBigInteger" "value" "[I" (.ref rt) ∧ Arv Z h' rt kr .int 1 [.int 1] (.int 0) ∧ (h0.size ≤ r) ∧ (h0.size ≤ rt)) := by
  refine Ct.py (by0 := y25) (ml := 13) (rt := (some (.object "java/math/MutableBigInteger"))) (rm := ({ frames := 3, cells := 2, slots := 4, locals := 42 } : Room)) ?_ (hq hw 88 rfl) (hq hw 43 rfl)
  refine Ct.mk (a0 := a0) (Ls := #[.val (.ref u), .val (.ref v), .unset, .unset, .unset, .unset, .unset, .unset, .unset, .unset, .unset, .unset, .unset]) (plainFor_of_name pn_java_math_MutableBigInteger) (fun m => by simp [entryFrame, mkF, argsToLocals, Value.category]) ?_
  intro κ C
  show Go l _ Z _ _ _ κ [u, t, v] h0 0 #[.val (.ref u), .val (.ref v), .unset, .unset, .unset, .unset, .unset, .unset, .unset, .unset, .unset, .unset, .unset] [] 0 0
  refine od' C 1 d14_0 rfl rfl rfl (oj1' C 2 (Ls' := #[.val (.ref u), .val (.ref v), .val (.ref u), .unset, .unset, .unset, .unset, .unset, .unset, .unset, .unset, .unset, .unset]) d14_1 rfl rfl rfl (ok1' C 5 1 3 d14_2 rfl rfl rfl (hq hw 75 rfl) (hq hw 42 rfl) (hq hw 43 rfl) (by decide) (by decide) ?_))
  intro b1 ph2 g3 E4 A5 D6
  have fx7 : Fld Z ph2 b1 "java/math/MutableBigInteger" "offset" "I" (.int 0) := D6 (Or.inl (hq hw 50 rfl)) (ty := .int) (by decide)
  have fx8 : Fld Z ph2 b1 "java/math/MutableBigInteger" "intLen" "I" (.int 0) := D6 (Or.inl (hq hw 54 rfl)) (ty := .int) (by decide)
  have fx9 : Fld Z ph2 b1 "java/math/MutableBigInteger" "value" "[I" .null := D6 (Or.inl (hq hw 69 rfl)) (ty := (.array .int)) (by decide)
  refine of1' C 6 d14_5 rfl rfl (ol1' C (a := b1) (argsL := []) (W := 1) d14_6 rfl (hq hw 76 rfl) (hq hw 77 rfl) (hq hw 78 rfl) (by decide) pd___V (ct_mbi0 l Z a0 hw am (u := b1) A5 fx7 fx8 fx9) rfl (Nat.le_of_eq rfl) rfl (by decide) (memsS (mi 0 rfl) mems0) ?_)
  intro fv10 ph11 K12 fq13
  obtain ⟨t14, kt15, rfl, fx16, fx17, fx18, fx19, fx20, fx21⟩ := fq13
  refine ⟨[t14], (freshS ⟨fx21, (fx20).lt⟩ fresh0), ?_⟩
  show Go l _ Z _ _ _ κ [t14, b1, u, t, v] _ 9 _ [(.ref b1)] 2 4
  refine oj1' C 10 (Ls' := #[.val (.ref u), .val (.ref v), .val (.ref u), .val (.ref b1), .unset, .unset, .unset, .unset, .unset, .unset, .unset, .unset, .unset]) d14_9 rfl rfl rfl (od' C 11 d14_10 rfl rfl rfl ?_)
  have fx22 := ((Exa.ext E4 p0).keep K12)
  have fx23 := ((Fld.ext E4 p1).keep K12 (ninS (Nat.ne_of_lt (nltle (p0).lt (Nat.le_of_eq g3.symm))) nin0))
  have fx24 := ((Fld.ext E4 p2).keep K12 (ninS (Nat.ne_of_lt (nltle (p0).lt (Nat.le_of_eq g3.symm))) nin0))
  have fx25 := ((Fld.ext E4 p3).keep K12 (ninS (Nat.ne_of_lt (nltle (p0).lt (Nat.le_of_eq g3.symm))) nin0))
  have fx26 := ((p4.ext E4).keep K12 (ninS (Nat.ne_of_lt (nltle (p4).lt (Nat.le_of_eq g3.symm))) nin0))
  refine oq' C (a := u) (argsL := []) (W := 0) d14_11 (hq hw 89 rfl) (decl_of (hq hw 90 rfl) (hq hw 93 rfl)) (nfS (hq hw 92 rfl)) (hq hw 92 rfl) (hq hw 90 rfl) fx22 (by decide) pd___I (ct_lb1 l Z a0 hw am (u := u) (t := t) (kt := kt) (x := x) fx22 fx23 fx24 fx25 fx26 hx) rfl (Nat.le_of_eq rfl) rfl (by decide) mems0 ?_
  intro fv27 ph28 K29 fq30
  obtain ⟨z31, rfl, rfl, fx32⟩ := fq30
  refine ⟨[], fresh0, ?_⟩
  show Go l _ Z _ _ _ κ _ _ 14 _ [.int z31] 2 4
  refine of' C 16 (Ls' := #[.val (.ref u), .val (.ref v), .val (.ref u), .val (.ref b1), .val (.int z31), .unset, .unset, .unset, .unset, .unset, .unset, .unset, .unset]) d14_14 rfl rfl (od' C 17 d14_16 rfl rfl rfl ?_)
  have fx33 := ((Exa.ext E4 p5).keep K12)
  have fx34 := ((Fld.ext E4 p6).keep K12 (ninS (Nat.ne_of_lt (nltle (p5).lt (Nat.le_of_eq g3.symm))) nin0))
  have fx35 := ((Fld.ext E4 p7).keep K12 (ninS (Nat.ne_of_lt (nltle (p5).lt (Nat.le_of_eq g3.symm))) nin0))
  have fx36 := ((Fld.ext E4 p8).keep K12 (ninS (Nat.ne_of_lt (nltle (p5).lt (Nat.le_of_eq g3.symm))) nin0))
  have fx37 := ((p9.ext E4).keep K12 (ninS (Nat.ne_of_lt (nltle (p9).lt (Nat.le_of_eq g3.symm))) nin0))
  refine oq' C (a := v) (argsL := []) (W := 0) d14_17 (hq hw 89 rfl) (decl_of (hq hw 90 rfl) (hq hw 93 rfl)) (nfS (hq hw 92 rfl)) (hq hw 92 rfl) (hq hw 90 rfl) fx33 (by decide) pd___I (ct_lbv l Z a0 hw am (u := v) (t := s) (kt := ks) fx33 fx34 fx35 fx36 fx37) rfl (Nat.le_of_eq rfl) rfl (by decide) mems0 ?_
  intro fv38 ph39 K40 fq41
  obtain ⟨rfl, rfl⟩ := fq41
  refine ⟨[], fresh0, ?_⟩
  show Go l _ Z _ _ _ κ _ _ 20 _ [.int 0] 2 4
  refine of' C 22 (Ls' := #[.val (.ref u), .val (.ref v), .val (.ref u), .val (.ref b1), .val (.int z31), .val (.int 0), .unset, .unset, .unset, .unset, .unset, .unset, .unset]) d14_20 rfl rfl (oa' C 24 d14_22 rfl rfl (oa' C 26 d14_24 rfl rfl (oj' C (pc' := 34) d14_26 (flt (fx32.nn : ¬ (z31 < (0 : Int32)))).2.1 (by decide) (by decide) (oa' C 36 d14_34 rfl rfl ?_))))
  refine of' C 38 (Ls' := #[.val (.ref u), .val (.ref v), .val (.ref u), .val (.ref b1), .val (.int z31), .val (.int 0), .val (.int 0), .unset, .unset, .unset, .unset, .unset, .unset]) d14_36 rfl rfl (oa' C 40 d14_38 rfl rfl (on' C (pc' := 55) d14_40 (by decide) (by decide) (by decide) (oa' C 57 d14_55 rfl rfl (oa' C 59 d14_57 rfl rfl ?_))))
  by_cases hk : (0 : Int32) = z31
  · skip
    refine ol' C 62 d14_59 rfl (teq hk).2 (oe' C 63 (1 : Int32) d14_62 rfl (by decide) (os' C (pc' := 67) d14_63 (by decide) (by decide) (of' C 69 (Ls' := #[.val (.ref u), .val (.ref v), .val (.ref u), .val (.ref b1), .val (.int z31), .val (.int 0), .val (.int 0), .val (.int 1), .unset, .unset, .unset, .unset, .unset]) d14_67 rfl rfl (oa' C 71 d14_69 rfl rfl ?_))))
    refine or' C 74 d14_71 rfl (by decide) (od' C 75 d14_74 rfl rfl rfl (os' C (pc' := 79) d14_75 (by decide) (by decide) (oy' C 81 (Ls' := #[.val (.ref u), .val (.ref v), .val (.ref u), .val (.ref b1), .val (.int z31), .val (.int 0), .val (.int 0), .val (.int 1), .val (.ref v), .unset, .unset, .unset, .unset]) d14_79 rfl rfl rfl (oa' C 83 d14_81 rfl rfl ?_))))
    refine or' C 86 d14_83 rfl (by decide) (oe' C 87 (-1 : Int32) d14_86 rfl (by decide) (os' C (pc' := 91) d14_87 (by decide) (by decide) (of' C 93 (Ls' := #[.val (.ref u), .val (.ref v), .val (.ref u), .val (.ref b1), .val (.int z31), .val (.int 0), .val (.int 0), .val (.int 1), .val (.ref v), .val (.int (-1 : Int32)), .unset, .unset, .unset]) d14_91 rfl rfl (oc' C 95 d14_93 rfl rfl rfl ?_))))
    refine oq' C (a := v) (argsL := []) (W := 0) d14_95 (hq hw 89 rfl) (decl_of (hq hw 90 rfl) (hq hw 93 rfl)) (nfS (hq hw 92 rfl)) (hq hw 92 rfl) (hq hw 90 rfl) fx33 (by decide) pd___I (ct_lbv l Z a0 hw am (u := v) (t := s) (kt := ks) fx33 fx34 fx35 fx36 fx37) rfl (Nat.le_of_eq rfl) rfl (by decide) mems0 ?_
    intro fv42 ph43 K44 fq45
    obtain ⟨rfl, rfl⟩ := fq45
    refine ⟨[], fresh0, ?_⟩
    show Go l _ Z _ _ _ κ _ _ 98 _ [.int 0] 2 4
    refine of1' C 99 d14_98 rfl rfl (of' C 101 (Ls' := #[.val (.ref u), .val (.ref v), .val (.ref u), .val (.ref b1), .val (.int z31), .val (.int 0), .val (.int 0), .val (.int 1), .val (.ref v), .val (.int (-1 : Int32)), .val (.int 0), .unset, .unset]) d14_99 rfl rfl (or' C 104 d14_101 rfl (by decide) (oc' C 106 d14_104 rfl rfl rfl (oa' C 108 d14_106 rfl rfl ?_))))
    refine oq' C (a := v) (argsL := [.int 0]) (W := 0) d14_108 (hq hw 98 rfl) (hq hw 99 rfl) (nfS (hq hw 101 rfl)) (hq hw 101 rfl) (hq hw 100 rfl) fx33 (by decide) pd__I_V (ct_rs0 l Z a0 hw am (u := v) (t := s) (n := (1 : Int32)) fx33 fx34 fx35 fx36 (by decide)) rfl (Nat.le_of_eq rfl) rfl (by decide) (memsS (mi 4 rfl) mems0) ?_
    intro fv46 ph47 K48 fq49
    obtain ⟨rfl, fx50, fx51, fx52, fx53⟩ := fq49
    refine ⟨[], fresh0, ?_⟩
    show Go l _ Z _ _ _ κ _ _ 111 _ [] 2 4
    refine oa' C 113 d14_111 rfl rfl (on' C (pc' := 122) d14_113 (by decide) (by decide) (by decide) (oc' C 124 d14_122 rfl rfl rfl (oj1' C 125 (Ls' := #[.val (.ref u), .val (.ref v), .val (.ref u), .val (.ref b1), .val (.int z31), .val (.int 0), .val (.int 0), .val (.int 1), .val (.ref v), .val (.int (-1 : Int32)), .val (.int 0), .unset, .unset]) d14_124 rfl rfl rfl (od' C 126 d14_125 rfl rfl rfl ?_))))
    have fx54 := (fx24.keep K48 (ninS huv nin0))
    refine og' C 129 d14_126 rfl (hq hw 53 rfl) Via.refl fx54 (oe' C 130 (2 : Int32) d14_129 rfl (by decide) (ol' C 133 d14_130 rfl (by decide) (od' C 134 d14_133 rfl rfl rfl (og' C 137 d14_134 rfl (hq hw 53 rfl) Via.refl fx52 ?_))))
    refine oe' C 138 (2 : Int32) d14_137 rfl (by decide) (ol' C 141 d14_138 rfl (by decide) (od' C 142 d14_141 rfl rfl rfl ?_))
    have fx55 := (fx25.keep K48 (ninS huv nin0))
    refine og' C 145 d14_142 rfl (hq hw 68 rfl) Via.refl fx55 (od' C 146 d14_145 rfl rfl rfl ?_)
    have fx56 := (fx23.keep K48 (ninS huv nin0))
    refine og' C 149 d14_146 rfl (hq hw 49 rfl) Via.refl fx56 ?_
    have fx57 := (fx26.keep K48 (ninS (Ne.symm (Exa.neArv ((Exa.ext E4 p5).keep K12) fx26 (hq hw 42 rfl))) nin0))
    refine oa1' C 150 (v := (.int x)) d14_149 rfl fx57 (by decide) rfl (of' C 152 (Ls' := #[.val (.ref u), .val (.ref v), .val (.ref u), .val (.ref b1), .val (.int z31), .val (.int 0), .val (.int 0), .val (.int 1), .val (.ref v), .val (.int (-1 : Int32)), .val (.int 0), .val (.int x), .unset]) d14_150 rfl rfl (od' C 153 d14_152 rfl rfl rfl (og' C 156 d14_153 rfl (hq hw 68 rfl) Via.refl fx53 (od' C 157 d14_156 rfl rfl rfl ?_))))
    refine og' C 160 d14_157 rfl (hq hw 49 rfl) Via.refl fx51 ?_
    have fx58 := (fx37.keep K48 (ninS (Ne.symm (Exa.neArv ((Exa.ext E4 p5).keep K12) fx37 (hq hw 42 rfl))) nin0))
    refine oa1' C 161 (v := (.int 1)) d14_160 rfl fx58 (by decide) rfl (of' C 163 (Ls' := #[.val (.ref u), .val (.ref v), .val (.ref u), .val (.ref b1), .val (.int z31), .val (.int 0), .val (.int 0), .val (.int 1), .val (.ref v), .val (.int (-1 : Int32)), .val (.int 0), .val (.int x), .val (.int 1)]) d14_161 rfl rfl (oa' C 165 d14_163 rfl rfl (oa' C 167 d14_165 rfl rfl (oc1' C (argsL := [.int x, .int 1]) (W := 0) d14_167 (hq hw 103 rfl) (hq hw 104 rfl) (hq hw 43 rfl) (hq hw 105 rfl) (by decide) pd__II_I (ct_gcd l Z a0 hw am (a := x) hx) rfl (Nat.le_of_eq rfl) rfl (by decide) mems0 ?_))))
    intro fv59 ph60 K61 fq62
    obtain ⟨rfl, rfl⟩ := fq62
    refine ⟨[], fresh0, ?_⟩
    show Go l _ Z _ _ _ κ _ _ 170 _ [.int 1] 2 4
    refine of' C 172 (Ls' := #[.val (.ref u), .val (.ref v), .val (.ref u), .val (.ref b1), .val (.int z31), .val (.int 0), .val (.int 0), .val (.int 1), .val (.ref v), .val (.int (-1 : Int32)), .val (.int 0), .val (.int 1), .val (.int 1)]) d14_170 rfl rfl (od' C 173 d14_172 rfl rfl rfl ?_)
    have fx63 := (fx19.keep K48 (ninS (Ne.symm (Nat.ne_of_lt (nltle (p5).lt (Nat.le_of_eq g3.symm)))) nin0))
    refine og' C 176 d14_173 rfl (hq hw 68 rfl) Via.refl fx63 (oe' C 177 (0 : Int32) d14_176 rfl (by decide) (oa' C 179 d14_177 rfl rfl ?_))
    have fx64 := (fx20.keep K48 (ninS (Ne.symm (Nat.ne_of_lt (nltle (nltle (p5).lt E4.1) fx21))) nin0))
    refine oo1' C 180 0 d14_179 rfl fx64 (by decide) rfl (nble rfl) (mi 0 rfl) ?_
    intro ph65 W66 fx67
    have fx68 : Arv Z ph65 t14 kt15 .int 1 [.int 1] (.int 0) := fx67
    refine od' C 181 d14_180 rfl rfl rfl (oe' C 182 (1 : Int32) d14_181 rfl (by decide) ?_)
    have fx69 := (Fld.other W66 (fx18.keep K48 (ninS (Ne.symm (Nat.ne_of_lt (nltle (p5).lt (Nat.le_of_eq g3.symm)))) nin0)) (Or.inl (Nat.ne_of_lt (nltle (A5).lt fx21))))
    have fx70 := (Exa.wr W66 (fx16.keep K48))
    refine oi1' C 185 (ty := .int) d14_182 rfl (hq hw 53 rfl) Via.refl fx69 fx70 (Or.inl (hq hw 54 rfl)) (hq hw 42 rfl) (by decide) rfl rfl (mi 1 rfl) ?_
    intro ph71 W72
    have fx73 : Fld Z ph71 b1 "java/math/MutableBigInteger" "intLen" "I" (.int 1) := Fld.same W72 fx69
    refine od' C 186 d14_185 rfl rfl rfl (oe' C 187 (0 : Int32) d14_186 rfl (by decide) ?_)
    have fx74 := (Fld.other W72 (Fld.other W66 (fx17.keep K48 (ninS (Ne.symm (Nat.ne_of_lt (nltle (p5).lt (Nat.le_of_eq g3.symm)))) nin0)) (Or.inl (Nat.ne_of_lt (nltle (A5).lt fx21)))) (Or.inr (slot_ne (Or.inl (hq hw 50 rfl)) (Or.inl (hq hw 54 rfl)) (by decide) (t := .int) (t' := .int) (by decide) (by decide))))
    have fx75 := (Exa.wr W72 fx70)
    refine oi1' C 190 (ty := .int) d14_187 rfl (hq hw 49 rfl) Via.refl fx74 fx75 (Or.inl (hq hw 50 rfl)) (hq hw 42 rfl) (by decide) rfl rfl (mi 1 rfl) ?_
    intro ph76 W77
    have fx78 : Fld Z ph76 b1 "java/math/MutableBigInteger" "offset" "I" (.int 0) := Fld.same W77 fx74
    refine oa' C 192 d14_190 rfl rfl (on' C (pc' := 201) d14_192 (by decide) (by decide) (by decide) (od' C 202 d14_201 rfl rfl rfl (ob1' C (v := (.ref b1)) d14_202 rfl rfl rfl (by decide) (by decide) ?_)))
    have fx79 := (Exa.wr W77 fx75)
    have fx80 := (Fld.other W77 fx73 (Or.inr (slot_ne (Or.inl (hq hw 54 rfl)) (Or.inl (hq hw 50 rfl)) (by decide) (t := .int) (t' := .int) (by decide) (by decide))))
    have fx81 := (Fld.other W77 (Fld.other W72 (Fld.other W66 fx63 (Or.inl (Nat.ne_of_lt (nltle (A5).lt fx21)))) (Or.inr (slot_ne (Or.inl (hq hw 69 rfl)) (Or.inl (hq hw 54 rfl)) (by decide) (t := (.array .int)) (t' := .int) (by decide) (by decide)))) (Or.inr (slot_ne (Or.inl (hq hw 69 rfl)) (Or.inl (hq hw 50 rfl)) (by decide) (t := (.array .int)) (t' := .int) (by decide) (by decide))))
    have fx82 := ((fx68.other W72 (Ne.symm (Nat.ne_of_lt (nltle (A5).lt fx21)))).other W77 (Ne.symm (Nat.ne_of_lt (nltle (A5).lt fx21))))
    exact ⟨b1, t14, kt15, rfl, fx79, fx78, fx80, fx81, fx82, (Nat.le_of_eq g3.symm), (Nat.le_trans E4.1 fx21)⟩
  · skip
    refine oj' C (pc' := 66) d14_59 (feq hk).2 (by decide) (by decide) (oe' C 67 (0 : Int32) d14_66 rfl (by decide) (of' C 69 (Ls' := #[.val (.ref u), .val (.ref v), .val (.ref u), .val (.ref b1), .val (.int z31), .val (.int 0), .val (.int 0), .val (.int 0), .unset, .unset, .unset, .unset, .unset]) d14_67 rfl rfl (oa' C 71 d14_69 rfl rfl (on' C (pc' := 78) d14_71 (by decide) (by decide) (by decide) ?_))))
    refine od' C 79 d14_78 rfl rfl rfl (oy' C 81 (Ls' := #[.val (.ref u), .val (.ref v), .val (.ref u), .val (.ref b1), .val (.int z31), .val (.int 0), .val (.int 0), .val (.int 0), .val (.ref u), .unset, .unset, .unset, .unset]) d14_79 rfl rfl rfl (oa' C 83 d14_81 rfl rfl (on' C (pc' := 90) d14_83 (by decide) (by decide) (by decide) (oe' C 91 (1 : Int32) d14_90 rfl (by decide) ?_))))
    refine of' C 93 (Ls' := #[.val (.ref u), .val (.ref v), .val (.ref u), .val (.ref b1), .val (.int z31), .val (.int 0), .val (.int 0), .val (.int 0), .val (.ref u), .val (.int 1), .unset, .unset, .unset]) d14_91 rfl rfl (oc' C 95 d14_93 rfl rfl rfl (oq' C (a := u) (argsL := []) (W := 0) d14_95 (hq hw 89 rfl) (decl_of (hq hw 90 rfl) (hq hw 93 rfl)) (nfS (hq hw 92 rfl)) (hq hw 92 rfl) (hq hw 90 rfl) fx22 (by decide) pd___I (ct_lb1 l Z a0 hw am (u := u) (t := t) (kt := kt) (x := x) fx22 fx23 fx24 fx25 fx26 hx) rfl (Nat.le_of_eq rfl) rfl (by decide) mems0 ?_))
    intro fv83 ph84 K85 fq86
    obtain ⟨z87, rfl, rfl, fx88⟩ := fq86
    refine ⟨[], fresh0, ?_⟩
    show Go l _ Z _ _ _ κ _ _ 98 _ [.int z87] 2 4
    refine of1' C 99 d14_98 rfl rfl (of' C 101 (Ls' := #[.val (.ref u), .val (.ref v), .val (.ref u), .val (.ref b1), .val (.int z31), .val (.int 0), .val (.int 0), .val (.int 0), .val (.ref u), .val (.int 1), .val (.int z87), .unset, .unset]) d14_99 rfl rfl (or' C 104 d14_101 rfl (flt (fx88.nn : ¬ (z87 < (0 : Int32)))).1 (oc' C 106 d14_104 rfl rfl rfl (oa' C 108 d14_106 rfl rfl ?_))))
    refine oq' C (a := u) (argsL := [.int z87]) (W := 0) d14_108 (hq hw 98 rfl) (hq hw 99 rfl) (nfS (hq hw 101 rfl)) (hq hw 101 rfl) (hq hw 100 rfl) fx22 (by decide) pd__I_V (ct_rs1 l Z a0 hw am (u := u) (t := t) (kt := kt) (x := x) (z := z87) fx22 fx23 fx24 fx25 fx26 hx fx88) rfl (Nat.le_of_eq rfl) rfl (by decide) (memsS (mi 2 rfl) (memsS (mi 3 rfl) mems0)) ?_
    intro fv89 ph90 K91 fq92
    obtain ⟨n93, rfl, fx94, fx95, fx96, fx97, fx98, fx99⟩ := fq92
    refine ⟨[], fresh0, ?_⟩
    show Go l _ Z _ _ _ κ _ _ 111 _ [] 2 4
    refine oa' C 113 d14_111 rfl rfl (or' C 116 d14_113 rfl (by decide) (oc' C 118 d14_116 rfl rfl rfl (oj1' C 119 (Ls' := #[.val (.ref u), .val (.ref v), .val (.ref u), .val (.ref b1), .val (.int z31), .val (.int 0), .val (.int 0), .val (.int 0), .val (.ref u), .val (.int 1), .val (.int z87), .unset, .unset]) d14_118 rfl rfl rfl (os' C (pc' := 125) d14_119 (by decide) (by decide) ?_))))
    refine od' C 126 d14_125 rfl rfl rfl (og' C 129 d14_126 rfl (hq hw 53 rfl) Via.refl fx96 (oe' C 130 (2 : Int32) d14_129 rfl (by decide) (ol' C 133 d14_130 rfl (by decide) (od' C 134 d14_133 rfl rfl rfl ?_))))
    have fx100 := (fx35.keep K91 (ninS (Ne.symm huv) (ninS (Exa.neArv (((Exa.ext E4 p5).keep K12).keep K91) fx98 (hq hw 42 rfl)) nin0)))
    refine og' C 137 d14_134 rfl (hq hw 53 rfl) Via.refl fx100 (oe' C 138 (2 : Int32) d14_137 rfl (by decide) (ol' C 141 d14_138 rfl (by decide) (od' C 142 d14_141 rfl rfl rfl (og' C 145 d14_142 rfl (hq hw 68 rfl) Via.refl fx97 ?_))))
    refine od' C 146 d14_145 rfl rfl rfl (og' C 149 d14_146 rfl (hq hw 49 rfl) Via.refl fx95 (oa1' C 150 (v := (.int n93)) d14_149 rfl fx98 (by decide) rfl (of' C 152 (Ls' := #[.val (.ref u), .val (.ref v), .val (.ref u), .val (.ref b1), .val (.int z31), .val (.int 0), .val (.int 0), .val (.int 0), .val (.ref u), .val (.int 1), .val (.int z87), .val (.int n93), .unset]) d14_150 rfl rfl (od' C 153 d14_152 rfl rfl rfl ?_))))
    have fx101 := (fx36.keep K91 (ninS (Ne.symm huv) (ninS (Exa.neArv (((Exa.ext E4 p5).keep K12).keep K91) fx98 (hq hw 42 rfl)) nin0)))
    refine og' C 156 d14_153 rfl (hq hw 68 rfl) Via.refl fx101 (od' C 157 d14_156 rfl rfl rfl ?_)
    have fx102 := (fx34.keep K91 (ninS (Ne.symm huv) (ninS (Exa.neArv (((Exa.ext E4 p5).keep K12).keep K91) fx98 (hq hw 42 rfl)) nin0)))
    refine og' C 160 d14_157 rfl (hq hw 49 rfl) Via.refl fx102 ?_
    have fx103 := (fx37.keep K91 (ninS (Ne.symm (Exa.neArv ((Exa.ext E4 p0).keep K12) fx37 (hq hw 42 rfl))) (ninS (Ne.symm hts) nin0)))
    refine oa1' C 161 (v := (.int 1)) d14_160 rfl fx103 (by decide) rfl (of' C 163 (Ls' := #[.val (.ref u), .val (.ref v), .val (.ref u), .val (.ref b1), .val (.int z31), .val (.int 0), .val (.int 0), .val (.int 0), .val (.ref u), .val (.int 1), .val (.int z87), .val (.int n93), .val (.int 1)]) d14_161 rfl rfl (oa' C 165 d14_163 rfl rfl (oa' C 167 d14_165 rfl rfl (oc1' C (argsL := [.int n93, .int 1]) (W := 0) d14_167 (hq hw 103 rfl) (hq hw 104 rfl) (hq hw 43 rfl) (hq hw 105 rfl) (by decide) pd__II_I (ct_gcd l Z a0 hw am (a := n93) fx99) rfl (Nat.le_of_eq rfl) rfl (by decide) mems0 ?_))))
    intro fv104 ph105 K106 fq107
    obtain ⟨rfl, rfl⟩ := fq107
    refine ⟨[], fresh0, ?_⟩
    show Go l _ Z _ _ _ κ _ _ 170 _ [.int 1] 2 4
    refine of' C 172 (Ls' := #[.val (.ref u), .val (.ref v), .val (.ref u), .val (.ref b1), .val (.int z31), .val (.int 0), .val (.int 0), .val (.int 0), .val (.ref u), .val (.int 1), .val (.int z87), .val (.int 1), .val (.int 1)]) d14_170 rfl rfl (od' C 173 d14_172 rfl rfl rfl ?_)
    have fx108 := (fx19.keep K91 (ninS (Ne.symm (Nat.ne_of_lt (nltle (p0).lt (Nat.le_of_eq g3.symm)))) (ninS (Ne.symm (Nat.ne_of_lt (nltle (p4).lt (Nat.le_of_eq g3.symm)))) nin0)))
    refine og' C 176 d14_173 rfl (hq hw 68 rfl) Via.refl fx108 (oe' C 177 (0 : Int32) d14_176 rfl (by decide) (oa' C 179 d14_177 rfl rfl ?_))
    have fx109 := (fx20.keep K91 (ninS (Ne.symm (Nat.ne_of_lt (nltle (nltle (p0).lt E4.1) fx21))) (ninS (Ne.symm (Nat.ne_of_lt (nltle (nltle (p4).lt E4.1) fx21))) nin0)))
    refine oo1' C 180 0 d14_179 rfl fx109 (by decide) rfl (nble rfl) (mi 0 rfl) ?_
    intro ph110 W111 fx112
    have fx113 : Arv Z ph110 t14 kt15 .int 1 [.int 1] (.int 0) := fx112
    refine od' C 181 d14_180 rfl rfl rfl (oe' C 182 (1 : Int32) d14_181 rfl (by decide) ?_)
    have fx114 := (Fld.other W111 (fx18.keep K91 (ninS (Ne.symm (Nat.ne_of_lt (nltle (p0).lt (Nat.le_of_eq g3.symm)))) (ninS (Ne.symm (Nat.ne_of_lt (nltle (p4).lt (Nat.le_of_eq g3.symm)))) nin0))) (Or.inl (Nat.ne_of_lt (nltle (A5).lt fx21))))
    have fx115 := (Exa.wr W111 (fx16.keep K91))
    refine oi1' C 185 (ty := .int) d14_182 rfl (hq hw 53 rfl) Via.refl fx114 fx115 (Or.inl (hq hw 54 rfl)) (hq hw 42 rfl) (by decide) rfl rfl (mi 1 rfl) ?_
    intro ph116 W117
    have fx118 : Fld Z ph116 b1 "java/math/MutableBigInteger" "intLen" "I" (.int 1) := Fld.same W117 fx114
    refine od' C 186 d14_185 rfl rfl rfl (oe' C 187 (0 : Int32) d14_186 rfl (by decide) ?_)
    have fx119 := (Fld.other W117 (Fld.other W111 (fx17.keep K91 (ninS (Ne.symm (Nat.ne_of_lt (nltle (p0).lt (Nat.le_of_eq g3.symm)))) (ninS (Ne.symm (Nat.ne_of_lt (nltle (p4).lt (Nat.le_of_eq g3.symm)))) nin0))) (Or.inl (Nat.ne_of_lt (nltle (A5).lt fx21)))) (Or.inr (slot_ne (Or.inl (hq hw 50 rfl)) (Or.inl (hq hw 54 rfl)) (by decide) (t := .int) (t' := .int) (by decide) (by decide))))
    have fx120 := (Exa.wr W117 fx115)
    refine oi1' C 190 (ty := .int) d14_187 rfl (hq hw 49 rfl) Via.refl fx119 fx120 (Or.inl (hq hw 50 rfl)) (hq hw 42 rfl) (by decide) rfl rfl (mi 1 rfl) ?_
    intro ph121 W122
    have fx123 : Fld Z ph121 b1 "java/math/MutableBigInteger" "offset" "I" (.int 0) := Fld.same W122 fx119
    refine oa' C 192 d14_190 rfl rfl (on' C (pc' := 201) d14_192 (by decide) (by decide) (by decide) (od' C 202 d14_201 rfl rfl rfl (ob1' C (v := (.ref b1)) d14_202 rfl rfl rfl (by decide) (by decide) ?_)))
    have fx124 := (Exa.wr W122 fx120)
    have fx125 := (Fld.other W122 fx118 (Or.inr (slot_ne (Or.inl (hq hw 54 rfl)) (Or.inl (hq hw 50 rfl)) (by decide) (t := .int) (t' := .int) (by decide) (by decide))))
    have fx126 := (Fld.other W122 (Fld.other W117 (Fld.other W111 fx108 (Or.inl (Nat.ne_of_lt (nltle (A5).lt fx21)))) (Or.inr (slot_ne (Or.inl (hq hw 69 rfl)) (Or.inl (hq hw 54 rfl)) (by decide) (t := (.array .int)) (t' := .int) (by decide) (by decide)))) (Or.inr (slot_ne (Or.inl (hq hw 69 rfl)) (Or.inl (hq hw 50 rfl)) (by decide) (t := (.array .int)) (t' := .int) (by decide) (by decide))))
    have fx127 := ((fx113.other W117 (Ne.symm (Nat.ne_of_lt (nltle (A5).lt fx21)))).other W122 (Ne.symm (Nat.ne_of_lt (nltle (A5).lt fx21))))
    exact ⟨b1, t14, kt15, rfl, fx124, fx123, fx125, fx126, fx127, (Nat.le_of_eq g3.symm), (Nat.le_trans E4.1 fx21)⟩
theorem bgloop (l : Launch) (Z : State) (a0 : Array Value) (hw : HW a0 Z) {one t1 zero t0 pos neg : Addr} {k1 k0 kp kn : ClassId} {pvs nvs : List Value} (am : Amb Z a0 one t1 zero t0 pos neg k1 k0 kp kn pvs nvs) {u t v s r rt : Addr} {kt ks kr : ClassId} {s4 : Int32} {x7 : Slot} {h0 : Heap} {κ : Kx} (C : Cx Z a0 (⟨"java/math/MutableBigInteger", "binaryGCD", "(Ljava/math/MutableBigInteger;)Ljava/math/MutableBigInteger;"⟩ : MethodName) jdk_2101_method_73_code 13 (some (.object "java/math/MutableBigInteger")) κ) (huv : u ≠ v) (hts : t ≠ s) (hur : u ≠ r) (hvr : v ≠ r) (htr : t ≠ rt) (hsr : s ≠ rt) (fr_r : h0.size ≤ r) (fr_rt : h0.size ≤ rt) : ∀ (N : Nat) (m0 m1 : Int32) (x10 : Slot) (hh : Heap), (x10 = .unset ∨ ∃ z : Int32, x10 = .val (.int z)) → uN m0 * 4294967296 + uN m1 ≤ N → ¬ (m0 = (0 : Int32)) → Exa Z hh u "java/math/MutableBigInteger" → Fld Z hh u "java/math/MutableBigInteger" "offset" "I" (.int 0) → Fld Z hh u "java/math/MutableBigInteger" "intLen" "I" (.int 2) → Fld Z hh u "java/math/MutableBigInteger" "value" "[I" (.ref t) → Arv Z hh t kt .int 2 [.int m0, .int m1] (.int 0) → Exa Z hh v "java/math/MutableBigInteger" → Fld Z hh v "java/math/MutableBigInteger" "offset" "I" (.int 0) → Fld Z hh v "java/math/MutableBigInteger" "intLen" "I" (.int 1) → Fld Z hh v "java/math/MutableBigInteger" "value" "[I" (.ref s) → Arv Z hh s ks .int 1 [.int 1] (.int 0) → Exa Z hh r "java/math/MutableBigInteger" → Fld Z hh r "java/math/MutableBigInteger" "offset" "I" (.int 0) → Fld Z hh r "java/math/MutableBigInteger" "intLen" "I" (.int 0) → Fld Z hh r "java/math/MutableBigInteger" "value" "[I" (.ref rt) → Arv Z hh rt kr .int 1 [.int 0] (.int 0) → Go l ({ frames := 3, cells := 2, slots := 4, locals := 42 } : Room) Z [u, t, v] h0 (fun rv h' => ∃ (r : Addr) (rt : Addr) (kr : ClassId), rv = some (.ref r) ∧ Exa Z h' r "java/math/MutableBigInteger" ∧ Fld Z h' r "java/math/MutableBigInteger" "offset" "I" (.int 0) ∧ Fld Z h' r "java/math/MutableBigInteger" "intLen" "I" (.int 1) ∧ Fld Z h' r "java/math/MutableBigInteger" "value" "[I" (.ref rt) ∧ Arv Z h' rt kr .int 1 [.int 1] (.int 0) ∧ (h0.size ≤ r) ∧ (h0.size ≤ rt)) κ [rt, r, u, t, v] hh 93 #[.val (.ref u), .val (.ref v), .val (.ref u), .val (.ref r), .val (.int s4), .val (.int 0), .val (.int 0), x7, .val (.ref u), .val (.int 1), x10, .unset, .unset] [] 2 4 := by
  intro N
  induction N with
  | zero => intro m0 m1 x10 hh hx10 hN hm0; exact absurd (uN_ne hm0) (by omega)
  | succ N ih =>
    intro m0 m1 x10 hh hx10 hN hm0 f0 f1 f2 f3 f4 f5 f6 f7 f8 f9 f10 f11 f12 f13 f14
    refine oc' C 95 d14_93 rfl rfl rfl (oq' C (a := u) (argsL := []) (W := 0) d14_95 (hq hw 89 rfl) (decl_of (hq hw 90 rfl) (hq hw 93 rfl)) (nfS (hq hw 92 rfl)) (hq hw 92 rfl) (hq hw 90 rfl) f0 (by decide) pd___I (ct_lb2 l Z a0 hw am (u := u) (t := t) (kt := kt) (m0 := m0) (m1 := m1) f0 f1 f2 f3 f4 hm0) rfl (Nat.le_of_eq rfl) rfl (by decide) mems0 ?_)
    intro fv1 ph2 K3 fq4
    rcases fq4 with ⟨z5, rfl, rfl, fx6, fx7⟩ | ⟨z8, rfl, rfl, fx9, fx10⟩
    · skip
      refine ⟨[], fresh0, ?_⟩
      show Go l _ Z _ _ _ κ _ _ 98 _ [.int z5] 2 4
      refine of1' C 99 d14_98 rfl rfl (of' C 101 (Ls' := #[.val (.ref u), .val (.ref v), .val (.ref u), .val (.ref r), .val (.int s4), .val (.int 0), .val (.int 0), x7, .val (.ref u), .val (.int 1), .val (.int z5), .unset, .unset]) d14_99 rfl (by rcases hx10 with rfl | ⟨_, rfl⟩ <;> rfl) (or' C 104 d14_101 rfl (flt (fx7.nn : ¬ (z5 < (0 : Int32)))).1 (oc' C 106 d14_104 rfl rfl rfl (oa' C 108 d14_106 rfl rfl ?_))))
      refine oq' C (a := u) (argsL := [.int z5]) (W := 0) d14_108 (hq hw 98 rfl) (hq hw 99 rfl) (nfS (hq hw 101 rfl)) (hq hw 101 rfl) (hq hw 100 rfl) f0 (by decide) pd__I_V (ct_rs2 l Z a0 hw am (u := u) (t := t) (kt := kt) (m0 := m0) (m1 := m1) (z := z5) f0 f1 f2 f3 f4 hm0 fx6 fx7) rfl (Nat.le_of_eq rfl) rfl (by decide) (memsS (mi 2 rfl) (memsS (mi 3 rfl) mems0)) ?_
      intro fv11 ph12 K13 fq14
      rcases fq14 with ⟨n15, w16, rfl, fx17, fx18, fx19, fx20, fx21, fx22⟩ | ⟨n023, n124, rfl, fx25, fx26, fx27, fx28, fx29, fx30, fx31, fx32⟩
      · skip
        refine ⟨[], fresh0, ?_⟩
        show Go l _ Z _ _ _ κ _ _ 111 _ [] 2 4
        refine oa' C 113 d14_111 rfl rfl (or' C 116 d14_113 rfl (by decide) (oc' C 118 d14_116 rfl rfl rfl (oj1' C 119 (Ls' := #[.val (.ref u), .val (.ref v), .val (.ref u), .val (.ref r), .val (.int s4), .val (.int 0), .val (.int 0), x7, .val (.ref u), .val (.int 1), .val (.int z5), .unset, .unset]) d14_118 rfl rfl rfl (os' C (pc' := 125) d14_119 (by decide) (by decide) ?_))))
        refine od' C 126 d14_125 rfl rfl rfl (og' C 129 d14_126 rfl (hq hw 53 rfl) Via.refl fx19 (oe' C 130 (2 : Int32) d14_129 rfl (by decide) (ol' C 133 d14_130 rfl (by decide) (od' C 134 d14_133 rfl rfl rfl ?_))))
        have fx33 := (f7.keep K13 (ninS (Ne.symm huv) (ninS (Exa.neArv (f5.keep K13) fx21 (hq hw 42 rfl)) nin0)))
        refine og' C 137 d14_134 rfl (hq hw 53 rfl) Via.refl fx33 (oe' C 138 (2 : Int32) d14_137 rfl (by decide) (ol' C 141 d14_138 rfl (by decide) (od' C 142 d14_141 rfl rfl rfl (og' C 145 d14_142 rfl (hq hw 68 rfl) Via.refl fx20 ?_))))
        refine od' C 146 d14_145 rfl rfl rfl (og' C 149 d14_146 rfl (hq hw 49 rfl) Via.refl fx18 (oa1' C 150 (v := (.int n15)) d14_149 rfl fx21 (by decide) rfl (of' C 152 (Ls' := #[.val (.ref u), .val (.ref v), .val (.ref u), .val (.ref r), .val (.int s4), .val (.int 0), .val (.int 0), x7, .val (.ref u), .val (.int 1), .val (.int z5), .val (.int n15), .unset]) d14_150 rfl rfl (od' C 153 d14_152 rfl rfl rfl ?_))))
        have fx34 := (f8.keep K13 (ninS (Ne.symm huv) (ninS (Exa.neArv (f5.keep K13) fx21 (hq hw 42 rfl)) nin0)))
        refine og' C 156 d14_153 rfl (hq hw 68 rfl) Via.refl fx34 (od' C 157 d14_156 rfl rfl rfl ?_)
        have fx35 := (f6.keep K13 (ninS (Ne.symm huv) (ninS (Exa.neArv (f5.keep K13) fx21 (hq hw 42 rfl)) nin0)))
        refine og' C 160 d14_157 rfl (hq hw 49 rfl) Via.refl fx35 ?_
        have fx36 := (f9.keep K13 (ninS (Ne.symm (Exa.neArv f0 f9 (hq hw 42 rfl))) (ninS (Ne.symm hts) nin0)))
        refine oa1' C 161 (v := (.int 1)) d14_160 rfl fx36 (by decide) rfl (of' C 163 (Ls' := #[.val (.ref u), .val (.ref v), .val (.ref u), .val (.ref r), .val (.int s4), .val (.int 0), .val (.int 0), x7, .val (.ref u), .val (.int 1), .val (.int z5), .val (.int n15), .val (.int 1)]) d14_161 rfl rfl (oa' C 165 d14_163 rfl rfl (oa' C 167 d14_165 rfl rfl (oc1' C (argsL := [.int n15, .int 1]) (W := 0) d14_167 (hq hw 103 rfl) (hq hw 104 rfl) (hq hw 43 rfl) (hq hw 105 rfl) (by decide) pd__II_I (ct_gcd l Z a0 hw am (a := n15) fx22) rfl (Nat.le_of_eq rfl) rfl (by decide) mems0 ?_))))
        intro fv37 ph38 K39 fq40
        obtain ⟨rfl, rfl⟩ := fq40
        refine ⟨[], fresh0, ?_⟩
        show Go l _ Z _ _ _ κ _ _ 170 _ [.int 1] 2 4
        refine of' C 172 (Ls' := #[.val (.ref u), .val (.ref v), .val (.ref u), .val (.ref r), .val (.int s4), .val (.int 0), .val (.int 0), x7, .val (.ref u), .val (.int 1), .val (.int z5), .val (.int 1), .val (.int 1)]) d14_170 rfl rfl (od' C 173 d14_172 rfl rfl rfl ?_)
        have fx41 := (f13.keep K13 (ninS (Ne.symm hur) (ninS (Exa.neArv (f10.keep K13) fx21 (hq hw 42 rfl)) nin0)))
        refine og' C 176 d14_173 rfl (hq hw 68 rfl) Via.refl fx41 (oe' C 177 (0 : Int32) d14_176 rfl (by decide) (oa' C 179 d14_177 rfl rfl ?_))
        have fx42 := (f14.keep K13 (ninS (Ne.symm (Exa.neArv f0 f14 (hq hw 42 rfl))) (ninS (Ne.symm htr) nin0)))
        refine oo1' C 180 0 d14_179 rfl fx42 (by decide) rfl (nble rfl) (mi 0 rfl) ?_
        intro ph43 W44 fx45
        have fx46 : Arv Z ph43 rt kr .int 1 [.int 1] (.int 0) := fx45
        refine od' C 181 d14_180 rfl rfl rfl (oe' C 182 (1 : Int32) d14_181 rfl (by decide) ?_)
        have fx47 := (Fld.other W44 (f12.keep K13 (ninS (Ne.symm hur) (ninS (Exa.neArv (f10.keep K13) fx21 (hq hw 42 rfl)) nin0))) (Or.inl (Exa.neArv (Exa.wr W44 (f10.keep K13)) fx46 (hq hw 42 rfl))))
        have fx48 := (Exa.wr W44 (f10.keep K13))
        refine oi1' C 185 (ty := .int) d14_182 rfl (hq hw 53 rfl) Via.refl fx47 fx48 (Or.inl (hq hw 54 rfl)) (hq hw 42 rfl) (by decide) rfl rfl (mi 1 rfl) ?_
        intro ph49 W50
        have fx51 : Fld Z ph49 r "java/math/MutableBigInteger" "intLen" "I" (.int 1) := Fld.same W50 fx47
        refine od' C 186 d14_185 rfl rfl rfl (oe' C 187 (0 : Int32) d14_186 rfl (by decide) ?_)
        have fx52 := (Fld.other W50 (Fld.other W44 (f11.keep K13 (ninS (Ne.symm hur) (ninS (Exa.neArv (f10.keep K13) fx21 (hq hw 42 rfl)) nin0))) (Or.inl (Exa.neArv (Exa.wr W44 (f10.keep K13)) fx46 (hq hw 42 rfl)))) (Or.inr (slot_ne (Or.inl (hq hw 50 rfl)) (Or.inl (hq hw 54 rfl)) (by decide) (t := .int) (t' := .int) (by decide) (by decide))))
        have fx53 := (Exa.wr W50 fx48)
        refine oi1' C 190 (ty := .int) d14_187 rfl (hq hw 49 rfl) Via.refl fx52 fx53 (Or.inl (hq hw 50 rfl)) (hq hw 42 rfl) (by decide) rfl rfl (mi 1 rfl) ?_
        intro ph54 W55
        have fx56 : Fld Z ph54 r "java/math/MutableBigInteger" "offset" "I" (.int 0) := Fld.same W55 fx52
        refine oa' C 192 d14_190 rfl rfl (on' C (pc' := 201) d14_192 (by decide) (by decide) (by decide) (od' C 202 d14_201 rfl rfl rfl (ob1' C (v := (.ref r)) d14_202 rfl rfl rfl (by decide) (by decide) ?_)))
        have fx57 := (Exa.wr W55 fx53)
        have fx58 := (Fld.other W55 fx51 (Or.inr (slot_ne (Or.inl (hq hw 54 rfl)) (Or.inl (hq hw 50 rfl)) (by decide) (t := .int) (t' := .int) (by decide) (by decide))))
        have fx59 := (Fld.other W55 (Fld.other W50 (Fld.other W44 fx41 (Or.inl (Exa.neArv (Exa.wr W44 (f10.keep K13)) fx46 (hq hw 42 rfl)))) (Or.inr (slot_ne (Or.inl (hq hw 69 rfl)) (Or.inl (hq hw 54 rfl)) (by decide) (t := (.array .int)) (t' := .int) (by decide) (by decide)))) (Or.inr (slot_ne (Or.inl (hq hw 69 rfl)) (Or.inl (hq hw 50 rfl)) (by decide) (t := (.array .int)) (t' := .int) (by decide) (by decide))))
        have fx60 := ((fx46.other W50 (Ne.symm (Exa.neArv (Exa.wr W44 (f10.keep K13)) fx46 (hq hw 42 rfl)))).other W55 (Ne.symm (Exa.neArv (Exa.wr W44 (f10.keep K13)) fx46 (hq hw 42 rfl))))
        exact ⟨r, rt, kr, rfl, fx57, fx56, fx58, fx59, fx60, fr_r, fr_rt⟩
      · skip
        refine ⟨[], fresh0, ?_⟩
        show Go l _ Z _ _ _ κ _ _ 111 _ [] 2 4
        refine oa' C 113 d14_111 rfl rfl (or' C 116 d14_113 rfl (by decide) (oc' C 118 d14_116 rfl rfl rfl (oj1' C 119 (Ls' := #[.val (.ref u), .val (.ref v), .val (.ref u), .val (.ref r), .val (.int s4), .val (.int 0), .val (.int 0), x7, .val (.ref u), .val (.int 1), .val (.int z5), .unset, .unset]) d14_118 rfl rfl rfl (os' C (pc' := 125) d14_119 (by decide) (by decide) ?_))))
        refine od' C 126 d14_125 rfl rfl rfl (og' C 129 d14_126 rfl (hq hw 53 rfl) Via.refl fx27 (oe' C 130 (2 : Int32) d14_129 rfl (by decide) (oj' C (pc' := 203) d14_130 (by decide) (by decide) (by decide) (od' C 204 d14_203 rfl rfl rfl ?_))))
        refine od' C 205 d14_204 rfl rfl rfl ?_
        have fx61 := (f5.keep K13)
        have fx62 := (f6.keep K13 (ninS (Ne.symm huv) (ninS (Exa.neArv (f5.keep K13) fx29 (hq hw 42 rfl)) nin0)))
        have fx63 := (f7.keep K13 (ninS (Ne.symm huv) (ninS (Exa.neArv (f5.keep K13) fx29 (hq hw 42 rfl)) nin0)))
        have fx64 := (f8.keep K13 (ninS (Ne.symm huv) (ninS (Exa.neArv (f5.keep K13) fx29 (hq hw 42 rfl)) nin0)))
        have fx65 := (f9.keep K13 (ninS (Ne.symm (Exa.neArv f0 f9 (hq hw 42 rfl))) (ninS (Ne.symm hts) nin0)))
        refine oq' C (a := u) (argsL := [(.ref v)]) (W := 0) d14_205 (hq hw 209 rfl) (decl_of (hq hw 210 rfl) (hq hw 213 rfl)) (nfS (hq hw 212 rfl)) (hq hw 212 rfl) (hq hw 210 rfl) fx25 (by decide) pd__Ljava_math_MutableBigInteger__I (ct_diff l Z a0 hw am (u := u) (t := t) (kt := kt) (m0 := n023) (m1 := n124) (v := v) (s := s) (ks := ks) fx25 fx26 fx27 fx28 fx29 fx61 fx62 fx63 fx64 fx65 fx30 fx31 huv hts) rfl (Nat.le_of_eq rfl) rfl (by decide) (memsS (mi 3 rfl) mems0) ?_
        intro fv66 ph67 K68 fq69
        obtain ⟨rfl, fx70⟩ := fq69
        refine ⟨[], fresh0, ?_⟩
        show Go l _ Z _ _ _ κ _ _ 208 _ [.int 1] 2 4
        refine of1' C 209 d14_208 rfl rfl (of' C 211 (Ls' := #[.val (.ref u), .val (.ref v), .val (.ref u), .val (.ref r), .val (.int s4), .val (.int 0), .val (.int 0), x7, .val (.ref u), .val (.int 1), .val (.int z5), .unset, .unset]) d14_209 rfl rfl (on' C (pc' := 217) d14_211 (by decide) (by decide) (by decide) (oa' C 219 d14_217 rfl rfl (or' C 222 d14_219 rfl (by decide) ?_))))
        refine od' C 223 d14_222 rfl rfl rfl (os' C (pc' := 227) d14_223 (by decide) (by decide) (oy' C 229 (Ls' := #[.val (.ref u), .val (.ref v), .val (.ref u), .val (.ref r), .val (.int s4), .val (.int 0), .val (.int 0), x7, .val (.ref u), .val (.int 1), .val (.int z5), .unset, .unset]) d14_227 rfl rfl rfl (os' C (pc' := 93) d14_229 (by decide) (by decide) ?_)))
        have fx71 := (fx25.keep K68)
        have fx72 := (fx26.keep K68 (ninS (Exa.neArv ((f0.keep K13).keep K68) fx70 (hq hw 42 rfl)) nin0))
        have fx73 := (fx27.keep K68 (ninS (Exa.neArv ((f0.keep K13).keep K68) fx70 (hq hw 42 rfl)) nin0))
        have fx74 := (fx28.keep K68 (ninS (Exa.neArv ((f0.keep K13).keep K68) fx70 (hq hw 42 rfl)) nin0))
        have fx75 := (fx61.keep K68)
        have fx76 := (fx62.keep K68 (ninS (Exa.neArv ((f5.keep K13).keep K68) fx70 (hq hw 42 rfl)) nin0))
        have fx77 := (fx63.keep K68 (ninS (Exa.neArv ((f5.keep K13).keep K68) fx70 (hq hw 42 rfl)) nin0))
        have fx78 := (fx64.keep K68 (ninS (Exa.neArv ((f5.keep K13).keep K68) fx70 (hq hw 42 rfl)) nin0))
        have fx79 := (fx65.keep K68 (ninS (Ne.symm hts) nin0))
        have fx80 := ((f10.keep K13).keep K68)
        have fx81 := ((f11.keep K13 (ninS (Ne.symm hur) (ninS (Exa.neArv ((f10.keep K13).keep K68) fx70 (hq hw 42 rfl)) nin0))).keep K68 (ninS (Exa.neArv ((f10.keep K13).keep K68) fx70 (hq hw 42 rfl)) nin0))
        have fx82 := ((f12.keep K13 (ninS (Ne.symm hur) (ninS (Exa.neArv ((f10.keep K13).keep K68) fx70 (hq hw 42 rfl)) nin0))).keep K68 (ninS (Exa.neArv ((f10.keep K13).keep K68) fx70 (hq hw 42 rfl)) nin0))
        have fx83 := ((f13.keep K13 (ninS (Ne.symm hur) (ninS (Exa.neArv ((f10.keep K13).keep K68) fx70 (hq hw 42 rfl)) nin0))).keep K68 (ninS (Exa.neArv ((f10.keep K13).keep K68) fx70 (hq hw 42 rfl)) nin0))
        have fx84 := ((f14.keep K13 (ninS (Ne.symm (Exa.neArv f0 f14 (hq hw 42 rfl))) (ninS (Ne.symm htr) nin0))).keep K68 (ninS (Ne.symm htr) nin0))
        exact ih _ _ _ _ (Or.inr ⟨_, rfl⟩) (bg_step fx31 fx32 hN) fx30 fx71 fx72 fx73 fx74 fx70 fx75 fx76 fx77 fx78 fx79 fx80 fx81 fx82 fx83 fx84
    · skip
      refine ⟨[], fresh0, ?_⟩
      show Go l _ Z _ _ _ κ _ _ 98 _ [(.int ((32 : Int32) + z8))] 2 4
      refine of1' C 99 d14_98 rfl rfl (of' C 101 (Ls' := #[.val (.ref u), .val (.ref v), .val (.ref u), .val (.ref r), .val (.int s4), .val (.int 0), .val (.int 0), x7, .val (.ref u), .val (.int 1), .val (.int ((32 : Int32) + z8)), .unset, .unset]) d14_99 rfl (by rcases hx10 with rfl | ⟨_, rfl⟩ <;> rfl) (or' C 104 d14_101 rfl (flt ((tz32_nn fx10) : ¬ (((32 : Int32) + z8) < (0 : Int32)))).1 (oc' C 106 d14_104 rfl rfl rfl (oa' C 108 d14_106 rfl rfl ?_))))
      refine oq' C (a := u) (argsL := [(.int ((32 : Int32) + z8))]) (W := 0) d14_108 (hq hw 98 rfl) (hq hw 99 rfl) (nfS (hq hw 101 rfl)) (hq hw 101 rfl) (hq hw 100 rfl) f0 (by decide) pd__I_V (ct_rs3 l Z a0 hw am (u := u) (t := t) (kt := kt) (m0 := m0) (m1 := m1) (z := z8) f0 f1 f2 f3 f4 hm0 fx10) rfl (Nat.le_of_eq rfl) rfl (by decide) (memsS (mi 2 rfl) (memsS (mi 3 rfl) mems0)) ?_
      intro fv85 ph86 K87 fq88
      obtain ⟨n89, w90, rfl, fx91, fx92, fx93, fx94, fx95, fx96⟩ := fq88
      refine ⟨[], fresh0, ?_⟩
      show Go l _ Z _ _ _ κ _ _ 111 _ [] 2 4
      refine oa' C 113 d14_111 rfl rfl (or' C 116 d14_113 rfl (by decide) (oc' C 118 d14_116 rfl rfl rfl (oj1' C 119 (Ls' := #[.val (.ref u), .val (.ref v), .val (.ref u), .val (.ref r), .val (.int s4), .val (.int 0), .val (.int 0), x7, .val (.ref u), .val (.int 1), .val (.int ((32 : Int32) + z8)), .unset, .unset]) d14_118 rfl rfl rfl (os' C (pc' := 125) d14_119 (by decide) (by decide) ?_))))
      refine od' C 126 d14_125 rfl rfl rfl (og' C 129 d14_126 rfl (hq hw 53 rfl) Via.refl fx93 (oe' C 130 (2 : Int32) d14_129 rfl (by decide) (ol' C 133 d14_130 rfl (by decide) (od' C 134 d14_133 rfl rfl rfl ?_))))
      have fx97 := (f7.keep K87 (ninS (Ne.symm huv) (ninS (Exa.neArv (f5.keep K87) fx95 (hq hw 42 rfl)) nin0)))
      refine og' C 137 d14_134 rfl (hq hw 53 rfl) Via.refl fx97 (oe' C 138 (2 : Int32) d14_137 rfl (by decide) (ol' C 141 d14_138 rfl (by decide) (od' C 142 d14_141 rfl rfl rfl (og' C 145 d14_142 rfl (hq hw 68 rfl) Via.refl fx94 ?_))))
      refine od' C 146 d14_145 rfl rfl rfl (og' C 149 d14_146 rfl (hq hw 49 rfl) Via.refl fx92 (oa1' C 150 (v := (.int n89)) d14_149 rfl fx95 (by decide) rfl (of' C 152 (Ls' := #[.val (.ref u), .val (.ref v), .val (.ref u), .val (.ref r), .val (.int s4), .val (.int 0), .val (.int 0), x7, .val (.ref u), .val (.int 1), .val (.int ((32 : Int32) + z8)), .val (.int n89), .unset]) d14_150 rfl rfl (od' C 153 d14_152 rfl rfl rfl ?_))))
      have fx98 := (f8.keep K87 (ninS (Ne.symm huv) (ninS (Exa.neArv (f5.keep K87) fx95 (hq hw 42 rfl)) nin0)))
      refine og' C 156 d14_153 rfl (hq hw 68 rfl) Via.refl fx98 (od' C 157 d14_156 rfl rfl rfl ?_)
      have fx99 := (f6.keep K87 (ninS (Ne.symm huv) (ninS (Exa.neArv (f5.keep K87) fx95 (hq hw 42 rfl)) nin0)))
      refine og' C 160 d14_157 rfl (hq hw 49 rfl) Via.refl fx99 ?_
      have fx100 := (f9.keep K87 (ninS (Ne.symm (Exa.neArv f0 f9 (hq hw 42 rfl))) (ninS (Ne.symm hts) nin0)))
      refine oa1' C 161 (v := (.int 1)) d14_160 rfl fx100 (by decide) rfl (of' C 163 (Ls' := #[.val (.ref u), .val (.ref v), .val (.ref u), .val (.ref r), .val (.int s4), .val (.int 0), .val (.int 0), x7, .val (.ref u), .val (.int 1), .val (.int ((32 : Int32) + z8)), .val (.int n89), .val (.int 1)]) d14_161 rfl rfl (oa' C 165 d14_163 rfl rfl (oa' C 167 d14_165 rfl rfl (oc1' C (argsL := [.int n89, .int 1]) (W := 0) d14_167 (hq hw 103 rfl) (hq hw 104 rfl) (hq hw 43 rfl) (hq hw 105 rfl) (by decide) pd__II_I (ct_gcd l Z a0 hw am (a := n89) fx96) rfl (Nat.le_of_eq rfl) rfl (by decide) mems0 ?_))))
      intro fv101 ph102 K103 fq104
      obtain ⟨rfl, rfl⟩ := fq104
      refine ⟨[], fresh0, ?_⟩
      show Go l _ Z _ _ _ κ _ _ 170 _ [.int 1] 2 4
      refine of' C 172 (Ls' := #[.val (.ref u), .val (.ref v), .val (.ref u), .val (.ref r), .val (.int s4), .val (.int 0), .val (.int 0), x7, .val (.ref u), .val (.int 1), .val (.int ((32 : Int32) + z8)), .val (.int 1), .val (.int 1)]) d14_170 rfl rfl (od' C 173 d14_172 rfl rfl rfl ?_)
      have fx105 := (f13.keep K87 (ninS (Ne.symm hur) (ninS (Exa.neArv (f10.keep K87) fx95 (hq hw 42 rfl)) nin0)))
      refine og' C 176 d14_173 rfl (hq hw 68 rfl) Via.refl fx105 (oe' C 177 (0 : Int32) d14_176 rfl (by decide) (oa' C 179 d14_177 rfl rfl ?_))
      have fx106 := (f14.keep K87 (ninS (Ne.symm (Exa.neArv f0 f14 (hq hw 42 rfl))) (ninS (Ne.symm htr) nin0)))
      refine oo1' C 180 0 d14_179 rfl fx106 (by decide) rfl (nble rfl) (mi 0 rfl) ?_
      intro ph107 W108 fx109
      have fx110 : Arv Z ph107 rt kr .int 1 [.int 1] (.int 0) := fx109
      refine od' C 181 d14_180 rfl rfl rfl (oe' C 182 (1 : Int32) d14_181 rfl (by decide) ?_)
      have fx111 := (Fld.other W108 (f12.keep K87 (ninS (Ne.symm hur) (ninS (Exa.neArv (f10.keep K87) fx95 (hq hw 42 rfl)) nin0))) (Or.inl (Exa.neArv (Exa.wr W108 (f10.keep K87)) fx110 (hq hw 42 rfl))))
      have fx112 := (Exa.wr W108 (f10.keep K87))
      refine oi1' C 185 (ty := .int) d14_182 rfl (hq hw 53 rfl) Via.refl fx111 fx112 (Or.inl (hq hw 54 rfl)) (hq hw 42 rfl) (by decide) rfl rfl (mi 1 rfl) ?_
      intro ph113 W114
      have fx115 : Fld Z ph113 r "java/math/MutableBigInteger" "intLen" "I" (.int 1) := Fld.same W114 fx111
      refine od' C 186 d14_185 rfl rfl rfl (oe' C 187 (0 : Int32) d14_186 rfl (by decide) ?_)
      have fx116 := (Fld.other W114 (Fld.other W108 (f11.keep K87 (ninS (Ne.symm hur) (ninS (Exa.neArv (f10.keep K87) fx95 (hq hw 42 rfl)) nin0))) (Or.inl (Exa.neArv (Exa.wr W108 (f10.keep K87)) fx110 (hq hw 42 rfl)))) (Or.inr (slot_ne (Or.inl (hq hw 50 rfl)) (Or.inl (hq hw 54 rfl)) (by decide) (t := .int) (t' := .int) (by decide) (by decide))))
      have fx117 := (Exa.wr W114 fx112)
      refine oi1' C 190 (ty := .int) d14_187 rfl (hq hw 49 rfl) Via.refl fx116 fx117 (Or.inl (hq hw 50 rfl)) (hq hw 42 rfl) (by decide) rfl rfl (mi 1 rfl) ?_
      intro ph118 W119
      have fx120 : Fld Z ph118 r "java/math/MutableBigInteger" "offset" "I" (.int 0) := Fld.same W119 fx116
      refine oa' C 192 d14_190 rfl rfl (on' C (pc' := 201) d14_192 (by decide) (by decide) (by decide) (od' C 202 d14_201 rfl rfl rfl (ob1' C (v := (.ref r)) d14_202 rfl rfl rfl (by decide) (by decide) ?_)))
      have fx121 := (Exa.wr W119 fx117)
      have fx122 := (Fld.other W119 fx115 (Or.inr (slot_ne (Or.inl (hq hw 54 rfl)) (Or.inl (hq hw 50 rfl)) (by decide) (t := .int) (t' := .int) (by decide) (by decide))))
      have fx123 := (Fld.other W119 (Fld.other W114 (Fld.other W108 fx105 (Or.inl (Exa.neArv (Exa.wr W108 (f10.keep K87)) fx110 (hq hw 42 rfl)))) (Or.inr (slot_ne (Or.inl (hq hw 69 rfl)) (Or.inl (hq hw 54 rfl)) (by decide) (t := (.array .int)) (t' := .int) (by decide) (by decide)))) (Or.inr (slot_ne (Or.inl (hq hw 69 rfl)) (Or.inl (hq hw 50 rfl)) (by decide) (t := (.array .int)) (t' := .int) (by decide) (by decide))))
      have fx124 := ((fx110.other W114 (Ne.symm (Exa.neArv (Exa.wr W108 (f10.keep K87)) fx110 (hq hw 42 rfl)))).other W119 (Ne.symm (Exa.neArv (Exa.wr W108 (f10.keep K87)) fx110 (hq hw 42 rfl))))
      exact ⟨r, rt, kr, rfl, fx121, fx120, fx122, fx123, fx124, fr_r, fr_rt⟩
theorem ct_bg2 (l : Launch) (Z : State) (a0 : Array Value) (hw : HW a0 Z) {one t1 zero t0 pos neg : Addr} {k1 k0 kp kn : ClassId} {pvs nvs : List Value} (am : Amb Z a0 one t1 zero t0 pos neg k1 k0 kp kn pvs nvs) {u t : Addr} {kt : ClassId} {m0 m1 : Int32} {v s : Addr} {ks : ClassId} {h0 : Heap} (p0 : Exa Z h0 u "java/math/MutableBigInteger") (p1 : Fld Z h0 u "java/math/MutableBigInteger" "offset" "I" (.int 0)) (p2 : Fld Z h0 u "java/math/MutableBigInteger" "intLen" "I" (.int 2)) (p3 : Fld Z h0 u "java/math/MutableBigInteger" "value" "[I" (.ref t)) (p4 : Arv Z h0 t kt .int 2 [.int m0, .int m1] (.int 0)) (p5 : Exa Z h0 v "java/math/MutableBigInteger") (p6 : Fld Z h0 v "java/math/MutableBigInteger" "offset" "I" (.int 0)) (p7 : Fld Z h0 v "java/math/MutableBigInteger" "intLen" "I" (.int 1)) (p8 : Fld Z h0 v "java/math/MutableBigInteger" "value" "[I" (.ref s)) (p9 : Arv Z h0 s ks .int 1 [.int 1] (.int 0)) (h0z : ¬ (m0 = (0 : Int32))) (huv : u ≠ v) (hts : t ≠ s) :
    Py l Z (⟨"java/math/MutableBigInteger", "binaryGCD", "(Ljava/math/MutableBigInteger;)Ljava/math/MutableBigInteger;"⟩ : MethodName) 4 66 2 4 #[(.ref u), (.ref v)] h0 [u, t, v] (fun rv h' => ∃ (r : Addr) (rt : Addr) (kr : ClassId), rv = some (.ref r) ∧ Exa Z h' r "java/math/MutableBigInteger" ∧ Fld Z h' r "java/math/MutableBigInteger" "offset" "I" (.int 0) ∧ Fld Z h' r "java/math/MutableBigInteger" "intLen" "I" (.int 1) ∧ Fld Z h' r "java/math/MutableBigInteger" "value" "[I" (.ref rt) ∧ Arv Z h' rt kr .int 1 [.int 1] (.int 0) ∧ (h0.size ≤ r) ∧ (h0.size ≤ rt)) := by
  refine Ct.py (by0 := y25) (ml := 13) (rt := (some (.object "java/math/MutableBigInteger"))) (rm := ({ frames := 3, cells := 2, slots := 4, locals := 42 } : Room)) ?_ (hq hw 88 rfl) (hq hw 43 rfl)
  refine Ct.mk (a0 := a0) (Ls := #[.val (.ref u), .val (.ref v), .unset, .unset, .unset, .unset, .unset, .unset, .unset, .unset, .unset, .unset, .unset]) (plainFor_of_name pn_java_math_MutableBigInteger) (fun m => by simp [entryFrame, mkF, argsToLocals, Value.category]) ?_
  intro κ C
  show Go l _ Z _ _ _ κ [u, t, v] h0 0 #[.val (.ref u), .val (.ref v), .unset, .unset, .unset, .unset, .unset, .unset, .unset, .unset, .unset, .unset, .unset] [] 0 0
  refine od' C 1 d14_0 rfl rfl rfl (oj1' C 2 (Ls' := #[.val (.ref u), .val (.ref v), .val (.ref u), .unset, .unset, .unset, .unset, .unset, .unset, .unset, .unset, .unset, .unset]) d14_1 rfl rfl rfl (ok1' C 5 1 3 d14_2 rfl rfl rfl (hq hw 75 rfl) (hq hw 42 rfl) (hq hw 43 rfl) (by decide) (by decide) ?_))
  intro b1 ph2 g3 E4 A5 D6
  have fx7 : Fld Z ph2 b1 "java/math/MutableBigInteger" "offset" "I" (.int 0) := D6 (Or.inl (hq hw 50 rfl)) (ty := .int) (by decide)
  have fx8 : Fld Z ph2 b1 "java/math/MutableBigInteger" "intLen" "I" (.int 0) := D6 (Or.inl (hq hw 54 rfl)) (ty := .int) (by decide)
  have fx9 : Fld Z ph2 b1 "java/math/MutableBigInteger" "value" "[I" .null := D6 (Or.inl (hq hw 69 rfl)) (ty := (.array .int)) (by decide)
  refine of1' C 6 d14_5 rfl rfl (ol1' C (a := b1) (argsL := []) (W := 1) d14_6 rfl (hq hw 76 rfl) (hq hw 77 rfl) (hq hw 78 rfl) (by decide) pd___V (ct_mbi0 l Z a0 hw am (u := b1) A5 fx7 fx8 fx9) rfl (Nat.le_of_eq rfl) rfl (by decide) (memsS (mi 0 rfl) mems0) ?_)
  intro fv10 ph11 K12 fq13
  obtain ⟨t14, kt15, rfl, fx16, fx17, fx18, fx19, fx20, fx21⟩ := fq13
  refine ⟨[t14], (freshS ⟨fx21, (fx20).lt⟩ fresh0), ?_⟩
  show Go l _ Z _ _ _ κ [t14, b1, u, t, v] _ 9 _ [(.ref b1)] 2 4
  refine oj1' C 10 (Ls' := #[.val (.ref u), .val (.ref v), .val (.ref u), .val (.ref b1), .unset, .unset, .unset, .unset, .unset, .unset, .unset, .unset, .unset]) d14_9 rfl rfl rfl (od' C 11 d14_10 rfl rfl rfl ?_)
  have fx22 := ((Exa.ext E4 p0).keep K12)
  have fx23 := ((Fld.ext E4 p1).keep K12 (ninS (Nat.ne_of_lt (nltle (p0).lt (Nat.le_of_eq g3.symm))) nin0))
  have fx24 := ((Fld.ext E4 p2).keep K12 (ninS (Nat.ne_of_lt (nltle (p0).lt (Nat.le_of_eq g3.symm))) nin0))
  have fx25 := ((Fld.ext E4 p3).keep K12 (ninS (Nat.ne_of_lt (nltle (p0).lt (Nat.le_of_eq g3.symm))) nin0))
  have fx26 := ((p4.ext E4).keep K12 (ninS (Nat.ne_of_lt (nltle (p4).lt (Nat.le_of_eq g3.symm))) nin0))
  refine oq' C (a := u) (argsL := []) (W := 0) d14_11 (hq hw 89 rfl) (decl_of (hq hw 90 rfl) (hq hw 93 rfl)) (nfS (hq hw 92 rfl)) (hq hw 92 rfl) (hq hw 90 rfl) fx22 (by decide) pd___I (ct_lb2 l Z a0 hw am (u := u) (t := t) (kt := kt) (m0 := m0) (m1 := m1) fx22 fx23 fx24 fx25 fx26 h0z) rfl (Nat.le_of_eq rfl) rfl (by decide) mems0 ?_
  intro fv27 ph28 K29 fq30
  rcases fq30 with ⟨z31, rfl, rfl, fx32, fx33⟩ | ⟨z34, rfl, rfl, fx35, fx36⟩
  · skip
    refine ⟨[], fresh0, ?_⟩
    show Go l _ Z _ _ _ κ _ _ 14 _ [.int z31] 2 4
    refine of' C 16 (Ls' := #[.val (.ref u), .val (.ref v), .val (.ref u), .val (.ref b1), .val (.int z31), .unset, .unset, .unset, .unset, .unset, .unset, .unset, .unset]) d14_14 rfl rfl (od' C 17 d14_16 rfl rfl rfl ?_)
    have fx37 := ((Exa.ext E4 p5).keep K12)
    have fx38 := ((Fld.ext E4 p6).keep K12 (ninS (Nat.ne_of_lt (nltle (p5).lt (Nat.le_of_eq g3.symm))) nin0))
    have fx39 := ((Fld.ext E4 p7).keep K12 (ninS (Nat.ne_of_lt (nltle (p5).lt (Nat.le_of_eq g3.symm))) nin0))
    have fx40 := ((Fld.ext E4 p8).keep K12 (ninS (Nat.ne_of_lt (nltle (p5).lt (Nat.le_of_eq g3.symm))) nin0))
    have fx41 := ((p9.ext E4).keep K12 (ninS (Nat.ne_of_lt (nltle (p9).lt (Nat.le_of_eq g3.symm))) nin0))
    refine oq' C (a := v) (argsL := []) (W := 0) d14_17 (hq hw 89 rfl) (decl_of (hq hw 90 rfl) (hq hw 93 rfl)) (nfS (hq hw 92 rfl)) (hq hw 92 rfl) (hq hw 90 rfl) fx37 (by decide) pd___I (ct_lbv l Z a0 hw am (u := v) (t := s) (kt := ks) fx37 fx38 fx39 fx40 fx41) rfl (Nat.le_of_eq rfl) rfl (by decide) mems0 ?_
    intro fv42 ph43 K44 fq45
    obtain ⟨rfl, rfl⟩ := fq45
    refine ⟨[], fresh0, ?_⟩
    show Go l _ Z _ _ _ κ _ _ 20 _ [.int 0] 2 4
    refine of' C 22 (Ls' := #[.val (.ref u), .val (.ref v), .val (.ref u), .val (.ref b1), .val (.int z31), .val (.int 0), .unset, .unset, .unset, .unset, .unset, .unset, .unset]) d14_20 rfl rfl (oa' C 24 d14_22 rfl rfl (oa' C 26 d14_24 rfl rfl (oj' C (pc' := 34) d14_26 (flt (fx33.nn : ¬ (z31 < (0 : Int32)))).2.1 (by decide) (by decide) (oa' C 36 d14_34 rfl rfl ?_))))
    refine of' C 38 (Ls' := #[.val (.ref u), .val (.ref v), .val (.ref u), .val (.ref b1), .val (.int z31), .val (.int 0), .val (.int 0), .unset, .unset, .unset, .unset, .unset, .unset]) d14_36 rfl rfl (oa' C 40 d14_38 rfl rfl (on' C (pc' := 55) d14_40 (by decide) (by decide) (by decide) (oa' C 57 d14_55 rfl rfl (oa' C 59 d14_57 rfl rfl ?_))))
    by_cases hk : (0 : Int32) = z31
    · skip
      refine ol' C 62 d14_59 rfl (teq hk).2 (oe' C 63 (1 : Int32) d14_62 rfl (by decide) (os' C (pc' := 67) d14_63 (by decide) (by decide) (of' C 69 (Ls' := #[.val (.ref u), .val (.ref v), .val (.ref u), .val (.ref b1), .val (.int z31), .val (.int 0), .val (.int 0), .val (.int 1), .unset, .unset, .unset, .unset, .unset]) d14_67 rfl rfl (oa' C 71 d14_69 rfl rfl ?_))))
      refine or' C 74 d14_71 rfl (by decide) (od' C 75 d14_74 rfl rfl rfl (os' C (pc' := 79) d14_75 (by decide) (by decide) (oy' C 81 (Ls' := #[.val (.ref u), .val (.ref v), .val (.ref u), .val (.ref b1), .val (.int z31), .val (.int 0), .val (.int 0), .val (.int 1), .val (.ref v), .unset, .unset, .unset, .unset]) d14_79 rfl rfl rfl (oa' C 83 d14_81 rfl rfl ?_))))
      refine or' C 86 d14_83 rfl (by decide) (oe' C 87 (-1 : Int32) d14_86 rfl (by decide) (os' C (pc' := 91) d14_87 (by decide) (by decide) (of' C 93 (Ls' := #[.val (.ref u), .val (.ref v), .val (.ref u), .val (.ref b1), .val (.int z31), .val (.int 0), .val (.int 0), .val (.int 1), .val (.ref v), .val (.int (-1 : Int32)), .unset, .unset, .unset]) d14_91 rfl rfl (oc' C 95 d14_93 rfl rfl rfl ?_))))
      refine oq' C (a := v) (argsL := []) (W := 0) d14_95 (hq hw 89 rfl) (decl_of (hq hw 90 rfl) (hq hw 93 rfl)) (nfS (hq hw 92 rfl)) (hq hw 92 rfl) (hq hw 90 rfl) fx37 (by decide) pd___I (ct_lbv l Z a0 hw am (u := v) (t := s) (kt := ks) fx37 fx38 fx39 fx40 fx41) rfl (Nat.le_of_eq rfl) rfl (by decide) mems0 ?_
      intro fv46 ph47 K48 fq49
      obtain ⟨rfl, rfl⟩ := fq49
      refine ⟨[], fresh0, ?_⟩
      show Go l _ Z _ _ _ κ _ _ 98 _ [.int 0] 2 4
      refine of1' C 99 d14_98 rfl rfl (of' C 101 (Ls' := #[.val (.ref u), .val (.ref v), .val (.ref u), .val (.ref b1), .val (.int z31), .val (.int 0), .val (.int 0), .val (.int 1), .val (.ref v), .val (.int (-1 : Int32)), .val (.int 0), .unset, .unset]) d14_99 rfl rfl (or' C 104 d14_101 rfl (by decide) (oc' C 106 d14_104 rfl rfl rfl (oa' C 108 d14_106 rfl rfl ?_))))
      refine oq' C (a := v) (argsL := [.int 0]) (W := 0) d14_108 (hq hw 98 rfl) (hq hw 99 rfl) (nfS (hq hw 101 rfl)) (hq hw 101 rfl) (hq hw 100 rfl) fx37 (by decide) pd__I_V (ct_rs0 l Z a0 hw am (u := v) (t := s) (n := (1 : Int32)) fx37 fx38 fx39 fx40 (by decide)) rfl (Nat.le_of_eq rfl) rfl (by decide) (memsS (mi 4 rfl) mems0) ?_
      intro fv50 ph51 K52 fq53
      obtain ⟨rfl, fx54, fx55, fx56, fx57⟩ := fq53
      refine ⟨[], fresh0, ?_⟩
      show Go l _ Z _ _ _ κ _ _ 111 _ [] 2 4
      refine oa' C 113 d14_111 rfl rfl (on' C (pc' := 122) d14_113 (by decide) (by decide) (by decide) (oc' C 124 d14_122 rfl rfl rfl (oj1' C 125 (Ls' := #[.val (.ref u), .val (.ref v), .val (.ref u), .val (.ref b1), .val (.int z31), .val (.int 0), .val (.int 0), .val (.int 1), .val (.ref v), .val (.int (-1 : Int32)), .val (.int 0), .unset, .unset]) d14_124 rfl rfl rfl (od' C 126 d14_125 rfl rfl rfl ?_))))
      have fx58 := (fx24.keep K52 (ninS huv nin0))
      refine og' C 129 d14_126 rfl (hq hw 53 rfl) Via.refl fx58 (oe' C 130 (2 : Int32) d14_129 rfl (by decide) (oj' C (pc' := 203) d14_130 (by decide) (by decide) (by decide) (od' C 204 d14_203 rfl rfl rfl (od' C 205 d14_204 rfl rfl rfl ?_))))
      have fx59 := (fx22.keep K52)
      have fx60 := (fx23.keep K52 (ninS huv nin0))
      have fx61 := (fx25.keep K52 (ninS huv nin0))
      have fx62 := (fx26.keep K52 (ninS (Ne.symm (Exa.neArv ((Exa.ext E4 p5).keep K12) fx26 (hq hw 42 rfl))) nin0))
      have fx63 := (fx41.keep K52 (ninS (Ne.symm (Exa.neArv ((Exa.ext E4 p5).keep K12) fx41 (hq hw 42 rfl))) nin0))
      refine oq' C (a := u) (argsL := [(.ref v)]) (W := 0) d14_205 (hq hw 209 rfl) (decl_of (hq hw 210 rfl) (hq hw 213 rfl)) (nfS (hq hw 212 rfl)) (hq hw 212 rfl) (hq hw 210 rfl) fx59 (by decide) pd__Ljava_math_MutableBigInteger__I (ct_diff l Z a0 hw am (u := u) (t := t) (kt := kt) (m0 := m0) (m1 := m1) (v := v) (s := s) (ks := ks) fx59 fx60 fx58 fx61 fx62 fx54 fx55 fx56 fx57 fx63 h0z fx32 huv hts) rfl (Nat.le_of_eq rfl) rfl (by decide) (memsS (mi 3 rfl) mems0) ?_
      intro fv64 ph65 K66 fq67
      obtain ⟨rfl, fx68⟩ := fq67
      refine ⟨[], fresh0, ?_⟩
      show Go l _ Z _ _ _ κ _ _ 208 _ [.int 1] 2 4
      refine of1' C 209 d14_208 rfl rfl (of' C 211 (Ls' := #[.val (.ref u), .val (.ref v), .val (.ref u), .val (.ref b1), .val (.int z31), .val (.int 0), .val (.int 0), .val (.int 1), .val (.ref v), .val (.int 1), .val (.int 0), .unset, .unset]) d14_209 rfl rfl (on' C (pc' := 217) d14_211 (by decide) (by decide) (by decide) (oa' C 219 d14_217 rfl rfl (or' C 222 d14_219 rfl (by decide) ?_))))
      refine od' C 223 d14_222 rfl rfl rfl (os' C (pc' := 227) d14_223 (by decide) (by decide) (oy' C 229 (Ls' := #[.val (.ref u), .val (.ref v), .val (.ref u), .val (.ref b1), .val (.int z31), .val (.int 0), .val (.int 0), .val (.int 1), .val (.ref u), .val (.int 1), .val (.int 0), .unset, .unset]) d14_227 rfl rfl rfl (os' C (pc' := 93) d14_229 (by decide) (by decide) ?_)))
      have fx69 := (fx59.keep K66)
      have fx70 := (fx60.keep K66 (ninS (Exa.neArv ((((Exa.ext E4 p0).keep K12).keep K52).keep K66) fx68 (hq hw 42 rfl)) nin0))
      have fx71 := (fx58.keep K66 (ninS (Exa.neArv ((((Exa.ext E4 p0).keep K12).keep K52).keep K66) fx68 (hq hw 42 rfl)) nin0))
      have fx72 := (fx61.keep K66 (ninS (Exa.neArv ((((Exa.ext E4 p0).keep K12).keep K52).keep K66) fx68 (hq hw 42 rfl)) nin0))
      have fx73 := (fx54.keep K66)
      have fx74 := (fx55.keep K66 (ninS (Exa.neArv ((((Exa.ext E4 p5).keep K12).keep K52).keep K66) fx68 (hq hw 42 rfl)) nin0))
      have fx75 := (fx56.keep K66 (ninS (Exa.neArv ((((Exa.ext E4 p5).keep K12).keep K52).keep K66) fx68 (hq hw 42 rfl)) nin0))
      have fx76 := (fx57.keep K66 (ninS (Exa.neArv ((((Exa.ext E4 p5).keep K12).keep K52).keep K66) fx68 (hq hw 42 rfl)) nin0))
      have fx77 := (fx63.keep K66 (ninS (Ne.symm hts) nin0))
      have fx78 := ((fx16.keep K52).keep K66)
      have fx79 := ((fx17.keep K52 (ninS (Ne.symm (Nat.ne_of_lt (nltle (p5).lt (Nat.le_of_eq g3.symm)))) nin0)).keep K66 (ninS (Ne.symm (Nat.ne_of_lt (nltle (p4).lt (Nat.le_of_eq g3.symm)))) nin0))
      have fx80 := ((fx18.keep K52 (ninS (Ne.symm (Nat.ne_of_lt (nltle (p5).lt (Nat.le_of_eq g3.symm)))) nin0)).keep K66 (ninS (Ne.symm (Nat.ne_of_lt (nltle (p4).lt (Nat.le_of_eq g3.symm)))) nin0))
      have fx81 := ((fx19.keep K52 (ninS (Ne.symm (Nat.ne_of_lt (nltle (p5).lt (Nat.le_of_eq g3.symm)))) nin0)).keep K66 (ninS (Ne.symm (Nat.ne_of_lt (nltle (p4).lt (Nat.le_of_eq g3.symm)))) nin0))
      have fx82 := ((fx20.keep K52 (ninS (Ne.symm (Nat.ne_of_lt (nltle (nltle (p5).lt E4.1) fx21))) nin0)).keep K66 (ninS (Ne.symm (Nat.ne_of_lt (nltle (nltle (p4).lt E4.1) fx21))) nin0))
      exact bgloop l Z a0 hw am C huv hts (Nat.ne_of_lt (nltle (p0).lt (Nat.le_of_eq g3.symm))) (Nat.ne_of_lt (nltle (p5).lt (Nat.le_of_eq g3.symm))) (Nat.ne_of_lt (nltle (nltle (p4).lt E4.1) fx21)) (Nat.ne_of_lt (nltle (nltle (p9).lt E4.1) fx21)) (Nat.le_of_eq g3.symm) (Nat.le_trans E4.1 fx21) _ _ (m1 - (1 : Int32)) _ _ (Or.inr ⟨_, rfl⟩) (Nat.le_refl _) h0z fx69 fx70 fx71 fx72 fx68 fx73 fx74 fx75 fx76 fx77 fx78 fx79 fx80 fx81 fx82
    · skip
      refine oj' C (pc' := 66) d14_59 (feq hk).2 (by decide) (by decide) (oe' C 67 (0 : Int32) d14_66 rfl (by decide) (of' C 69 (Ls' := #[.val (.ref u), .val (.ref v), .val (.ref u), .val (.ref b1), .val (.int z31), .val (.int 0), .val (.int 0), .val (.int 0), .unset, .unset, .unset, .unset, .unset]) d14_67 rfl rfl (oa' C 71 d14_69 rfl rfl (on' C (pc' := 78) d14_71 (by decide) (by decide) (by decide) ?_))))
      refine od' C 79 d14_78 rfl rfl rfl (oy' C 81 (Ls' := #[.val (.ref u), .val (.ref v), .val (.ref u), .val (.ref b1), .val (.int z31), .val (.int 0), .val (.int 0), .val (.int 0), .val (.ref u), .unset, .unset, .unset, .unset]) d14_79 rfl rfl rfl (oa' C 83 d14_81 rfl rfl (on' C (pc' := 90) d14_83 (by decide) (by decide) (by decide) (oe' C 91 (1 : Int32) d14_90 rfl (by decide) ?_))))
      refine of' C 93 (Ls' := #[.val (.ref u), .val (.ref v), .val (.ref u), .val (.ref b1), .val (.int z31), .val (.int 0), .val (.int 0), .val (.int 0), .val (.ref u), .val (.int 1), .unset, .unset, .unset]) d14_91 rfl rfl ?_
      exact bgloop l Z a0 hw am C huv hts (Nat.ne_of_lt (nltle (p0).lt (Nat.le_of_eq g3.symm))) (Nat.ne_of_lt (nltle (p5).lt (Nat.le_of_eq g3.symm))) (Nat.ne_of_lt (nltle (nltle (p4).lt E4.1) fx21)) (Nat.ne_of_lt (nltle (nltle (p9).lt E4.1) fx21)) (Nat.le_of_eq g3.symm) (Nat.le_trans E4.1 fx21) _ _ m1 _ _ (Or.inl rfl) (Nat.le_refl _) h0z fx22 fx23 fx24 fx25 fx26 fx37 fx38 fx39 fx40 fx41 fx16 fx17 fx18 fx19 fx20
  · skip
    refine ⟨[], fresh0, ?_⟩
    show Go l _ Z _ _ _ κ _ _ 14 _ [(.int ((32 : Int32) + z34))] 2 4
    refine of' C 16 (Ls' := #[.val (.ref u), .val (.ref v), .val (.ref u), .val (.ref b1), .val (.int ((32 : Int32) + z34)), .unset, .unset, .unset, .unset, .unset, .unset, .unset, .unset]) d14_14 rfl rfl (od' C 17 d14_16 rfl rfl rfl ?_)
    have fx83 := ((Exa.ext E4 p5).keep K12)
    have fx84 := ((Fld.ext E4 p6).keep K12 (ninS (Nat.ne_of_lt (nltle (p5).lt (Nat.le_of_eq g3.symm))) nin0))
    have fx85 := ((Fld.ext E4 p7).keep K12 (ninS (Nat.ne_of_lt (nltle (p5).lt (Nat.le_of_eq g3.symm))) nin0))
    have fx86 := ((Fld.ext E4 p8).keep K12 (ninS (Nat.ne_of_lt (nltle (p5).lt (Nat.le_of_eq g3.symm))) nin0))
    have fx87 := ((p9.ext E4).keep K12 (ninS (Nat.ne_of_lt (nltle (p9).lt (Nat.le_of_eq g3.symm))) nin0))
    refine oq' C (a := v) (argsL := []) (W := 0) d14_17 (hq hw 89 rfl) (decl_of (hq hw 90 rfl) (hq hw 93 rfl)) (nfS (hq hw 92 rfl)) (hq hw 92 rfl) (hq hw 90 rfl) fx83 (by decide) pd___I (ct_lbv l Z a0 hw am (u := v) (t := s) (kt := ks) fx83 fx84 fx85 fx86 fx87) rfl (Nat.le_of_eq rfl) rfl (by decide) mems0 ?_
    intro fv88 ph89 K90 fq91
    obtain ⟨rfl, rfl⟩ := fq91
    refine ⟨[], fresh0, ?_⟩
    show Go l _ Z _ _ _ κ _ _ 20 _ [.int 0] 2 4
    refine of' C 22 (Ls' := #[.val (.ref u), .val (.ref v), .val (.ref u), .val (.ref b1), .val (.int ((32 : Int32) + z34)), .val (.int 0), .unset, .unset, .unset, .unset, .unset, .unset, .unset]) d14_20 rfl rfl (oa' C 24 d14_22 rfl rfl (oa' C 26 d14_24 rfl rfl (oj' C (pc' := 34) d14_26 (flt ((tz32_nn fx36) : ¬ (((32 : Int32) + z34) < (0 : Int32)))).2.1 (by decide) (by decide) (oa' C 36 d14_34 rfl rfl ?_))))
    refine of' C 38 (Ls' := #[.val (.ref u), .val (.ref v), .val (.ref u), .val (.ref b1), .val (.int ((32 : Int32) + z34)), .val (.int 0), .val (.int 0), .unset, .unset, .unset, .unset, .unset, .unset]) d14_36 rfl rfl (oa' C 40 d14_38 rfl rfl (on' C (pc' := 55) d14_40 (by decide) (by decide) (by decide) (oa' C 57 d14_55 rfl rfl (oa' C 59 d14_57 rfl rfl ?_))))
    refine oj' C (pc' := 66) d14_59 (feq ((tz32_ne fx36) : ¬ ((0 : Int32) = ((32 : Int32) + z34)))).2 (by decide) (by decide) (oe' C 67 (0 : Int32) d14_66 rfl (by decide) (of' C 69 (Ls' := #[.val (.ref u), .val (.ref v), .val (.ref u), .val (.ref b1), .val (.int ((32 : Int32) + z34)), .val (.int 0), .val (.int 0), .val (.int 0), .unset, .unset, .unset, .unset, .unset]) d14_67 rfl rfl (oa' C 71 d14_69 rfl rfl (on' C (pc' := 78) d14_71 (by decide) (by decide) (by decide) ?_))))
    refine od' C 79 d14_78 rfl rfl rfl (oy' C 81 (Ls' := #[.val (.ref u), .val (.ref v), .val (.ref u), .val (.ref b1), .val (.int ((32 : Int32) + z34)), .val (.int 0), .val (.int 0), .val (.int 0), .val (.ref u), .unset, .unset, .unset, .unset]) d14_79 rfl rfl rfl (oa' C 83 d14_81 rfl rfl (on' C (pc' := 90) d14_83 (by decide) (by decide) (by decide) (oe' C 91 (1 : Int32) d14_90 rfl (by decide) ?_))))
    refine of' C 93 (Ls' := #[.val (.ref u), .val (.ref v), .val (.ref u), .val (.ref b1), .val (.int ((32 : Int32) + z34)), .val (.int 0), .val (.int 0), .val (.int 0), .val (.ref u), .val (.int 1), .unset, .unset, .unset]) d14_91 rfl rfl ?_
    exact bgloop l Z a0 hw am C huv hts (Nat.ne_of_lt (nltle (p0).lt (Nat.le_of_eq g3.symm))) (Nat.ne_of_lt (nltle (p5).lt (Nat.le_of_eq g3.symm))) (Nat.ne_of_lt (nltle (nltle (p4).lt E4.1) fx21)) (Nat.ne_of_lt (nltle (nltle (p9).lt E4.1) fx21)) (Nat.le_of_eq g3.symm) (Nat.le_trans E4.1 fx21) _ _ m1 _ _ (Or.inl rfl) (Nat.le_refl _) h0z fx22 fx23 fx24 fx25 fx26 fx83 fx84 fx85 fx86 fx87 fx16 fx17 fx18 fx19 fx20
theorem ct_mabs0 (l : Launch) (Z : State) (a0 : Array Value) (hw : HW a0 Z) {one t1 zero t0 pos neg : Addr} {k1 k0 kp kn : ClassId} {pvs nvs : List Value} (am : Amb Z a0 one t1 zero t0 pos neg k1 k0 kp kn pvs nvs) {h0 : Heap} :
    Py l Z (⟨"java/lang/Math", "abs", "(I)I"⟩ : MethodName) 1 12 0 0 #[.int 0] h0 [] (fun rv h' => rv = some (.int 0) ∧ h' = h0) := by
  refine Ct.py (by0 := y29) (ml := 1) (rt := (some .int)) (rm := ({ frames := 0, cells := 0, slots := 0, locals := 0 } : Room)) ?_ (hq hw 83 rfl) (hq hw 82 rfl)
  refine Ct.mk (a0 := a0) (Ls := #[.val (.int 0)]) (Jvm.Free.JP.mathPlain rfl (by decide +kernel)) (fun m => by simp [entryFrame, mkF, argsToLocals, Value.category]) ?_
  intro κ C
  show Go l _ Z _ _ _ κ [] h0 0 #[.val (.int 0)] [] 0 0
  refine ob' C 1 d13_0 rfl rfl (on' C (pc' := 9) d13_1 (by decide) (by decide) (by decide) (ob' C 10 d13_9 rfl rfl (op' C d13_10 rfl (by decide) (by decide) ?_)))
  exact ⟨rfl, rfl⟩
theorem ct_mabs1 (l : Launch) (Z : State) (a0 : Array Value) (hw : HW a0 Z) {one t1 zero t0 pos neg : Addr} {k1 k0 kp kn : ClassId} {pvs nvs : List Value} (am : Amb Z a0 one t1 zero t0 pos neg k1 k0 kp kn pvs nvs) {h0 : Heap} :
    Py l Z (⟨"java/lang/Math", "abs", "(I)I"⟩ : MethodName) 1 12 0 0 #[.int 1] h0 [] (fun rv h' => rv = some (.int 1) ∧ h' = h0) := by
  refine Ct.py (by0 := y29) (ml := 1) (rt := (some .int)) (rm := ({ frames := 0, cells := 0, slots := 0, locals := 0 } : Room)) ?_ (hq hw 83 rfl) (hq hw 82 rfl)
  refine Ct.mk (a0 := a0) (Ls := #[.val (.int 1)]) (Jvm.Free.JP.mathPlain rfl (by decide +kernel)) (fun m => by simp [entryFrame, mkF, argsToLocals, Value.category]) ?_
  intro κ C
  show Go l _ Z _ _ _ κ [] h0 0 #[.val (.int 1)] [] 0 0
  refine ob' C 1 d13_0 rfl rfl (on' C (pc' := 9) d13_1 (by decide) (by decide) (by decide) (ob' C 10 d13_9 rfl rfl (op' C d13_10 rfl (by decide) (by decide) ?_)))
  exact ⟨rfl, rfl⟩
theorem ct_hg1 (l : Launch) (Z : State) (a0 : Array Value) (hw : HW a0 Z) {one t1 zero t0 pos neg : Addr} {k1 k0 kp kn : ClassId} {pvs nvs : List Value} (am : Amb Z a0 one t1 zero t0 pos neg k1 k0 kp kn pvs nvs) {u t : Addr} {kt : ClassId} {x : Int32} {v s : Addr} {ks : ClassId} {h0 : Heap} (p0 : Exa Z h0 u "java/math/MutableBigInteger") (p1 : Fld Z h0 u "java/math/MutableBigInteger" "offset" "I" (.int 0)) (p2 : Fld Z h0 u "java/math/MutableBigInteger" "intLen" "I" (.int 1)) (p3 : Fld Z h0 u "java/math/MutableBigInteger" "value" "[I" (.ref t)) (p4 : Arv Z h0 t kt .int 1 [.int x] (.int 0)) (p5 : Exa Z h0 v "java/math/MutableBigInteger") (p6 : Fld Z h0 v "java/math/MutableBigInteger" "offset" "I" (.int 0)) (p7 : Fld Z h0 v "java/math/MutableBigInteger" "intLen" "I" (.int 1)) (p8 : Fld Z h0 v "java/math/MutableBigInteger" "value" "[I" (.ref s)) (p9 : Arv Z h0 s ks .int 1 [.int 1] (.int 0)) (hx : ¬ (x = (0 : Int32))) (huv : u ≠ v) (hts : t ≠ s) :
    Py l Z (⟨"java/math/MutableBigInteger", "hybridGCD", "(Ljava/math/MutableBigInteger;)Ljava/math/MutableBigInteger;"⟩ : MethodName) 5 82 4 8 #[(.ref u), (.ref v)] h0 [u, t, v] (fun rv h' => ∃ (r : Addr) (rt : Addr) (kr : ClassId), rv = some (.ref r) ∧ Exa Z h' r "java/math/MutableBigInteger" ∧ Fld Z h' r "java/math/MutableBigInteger" "offset" "I" (.int 0) ∧ Fld Z h' r "java/math/MutableBigInteger" "intLen" "I" (.int 1) ∧ Fld Z h' r "java/math/MutableBigInteger" "value" "[I" (.ref rt) ∧ Arv Z h' rt kr .int 1 [.int 1] (.int 0) ∧ (h0.size ≤ r) ∧ (h0.size ≤ rt)) := by
  refine Ct.py (by0 := y24) (ml := 5) (rt := (some (.object "java/math/MutableBigInteger"))) (rm := ({ frames := 4, cells := 4, slots := 8, locals := 66 } : Room)) ?_ (hq hw 74 rfl) (hq hw 43 rfl)
  refine Ct.mk (a0 := a0) (Ls := #[.val (.ref u), .val (.ref v), .unset, .unset, .unset]) (plainFor_of_name pn_java_math_MutableBigInteger) (fun m => by simp [entryFrame, mkF, argsToLocals, Value.category]) ?_
  intro κ C
  show Go l _ Z _ _ _ κ [u, t, v] h0 0 #[.val (.ref u), .val (.ref v), .unset, .unset, .unset] [] 0 0
  refine od' C 1 d11_0 rfl rfl rfl (oj1' C 2 (Ls' := #[.val (.ref u), .val (.ref v), .val (.ref u), .unset, .unset]) d11_1 rfl rfl rfl (ok1' C 5 1 3 d11_2 rfl rfl rfl (hq hw 75 rfl) (hq hw 42 rfl) (hq hw 43 rfl) (by decide) (by decide) ?_))
  intro b1 ph2 g3 E4 A5 D6
  have fx7 : Fld Z ph2 b1 "java/math/MutableBigInteger" "offset" "I" (.int 0) := D6 (Or.inl (hq hw 50 rfl)) (ty := .int) (by decide)
  have fx8 : Fld Z ph2 b1 "java/math/MutableBigInteger" "intLen" "I" (.int 0) := D6 (Or.inl (hq hw 54 rfl)) (ty := .int) (by decide)
  have fx9 : Fld Z ph2 b1 "java/math/MutableBigInteger" "value" "[I" .null := D6 (Or.inl (hq hw 69 rfl)) (ty := (.array .int)) (by decide)
  refine of1' C 6 d11_5 rfl rfl (ol1' C (a := b1) (argsL := []) (W := 1) d11_6 rfl (hq hw 76 rfl) (hq hw 77 rfl) (hq hw 78 rfl) (by decide) pd___V (ct_mbi0 l Z a0 hw am (u := b1) A5 fx7 fx8 fx9) rfl (Nat.le_of_eq rfl) rfl (by decide) (memsS (mi 0 rfl) mems0) ?_)
  intro fv10 ph11 K12 fq13
  obtain ⟨t14, kt15, rfl, fx16, fx17, fx18, fx19, fx20, fx21⟩ := fq13
  refine ⟨[t14], (freshS ⟨fx21, (fx20).lt⟩ fresh0), ?_⟩
  show Go l _ Z _ _ _ κ [t14, b1, u, t, v] _ 9 _ [(.ref b1)] 2 4
  refine oj1' C 10 (Ls' := #[.val (.ref u), .val (.ref v), .val (.ref u), .val (.ref b1), .unset]) d11_9 rfl rfl rfl (od' C 11 d11_10 rfl rfl rfl ?_)
  have fx22 := ((Fld.ext E4 p7).keep K12 (ninS (Nat.ne_of_lt (nltle (p5).lt (Nat.le_of_eq g3.symm))) nin0))
  refine og' C 14 d11_11 rfl (hq hw 53 rfl) Via.refl fx22 (or' C 17 d11_14 rfl (by decide) (od' C 18 d11_17 rfl rfl rfl ?_))
  have fx23 := ((Fld.ext E4 p2).keep K12 (ninS (Nat.ne_of_lt (nltle (p0).lt (Nat.le_of_eq g3.symm))) nin0))
  refine og' C 21 d11_18 rfl (hq hw 53 rfl) Via.refl fx23 (od' C 22 d11_21 rfl rfl rfl (og' C 25 d11_22 rfl (hq hw 53 rfl) Via.refl fx22 (ow' C 26 (0 : Int32) d11_25 rfl (by decide) (oc1' C (argsL := [.int 0]) (W := 0) d11_26 (hq hw 80 rfl) (hq hw 81 rfl) (hq hw 82 rfl) (hq hw 83 rfl) (by decide) pd__I_I (ct_mabs0 l Z a0 hw am) rfl (Nat.le_of_eq rfl) rfl (by decide) mems0 ?_))))
  intro fv24 ph25 K26 fq27
  obtain ⟨rfl, rfl⟩ := fq27
  refine ⟨[], fresh0, ?_⟩
  show Go l _ Z _ _ _ κ _ _ 29 _ [.int 0] 2 4
  refine oe' C 30 (2 : Int32) d11_29 rfl (by decide) (ol' C 33 d11_30 rfl (by decide) (od' C 34 d11_33 rfl rfl rfl (od' C 35 d11_34 rfl rfl rfl ?_)))
  have fx28 := ((Exa.ext E4 p0).keep K12)
  have fx29 := ((Fld.ext E4 p1).keep K12 (ninS (Nat.ne_of_lt (nltle (p0).lt (Nat.le_of_eq g3.symm))) nin0))
  have fx30 := ((Fld.ext E4 p3).keep K12 (ninS (Nat.ne_of_lt (nltle (p0).lt (Nat.le_of_eq g3.symm))) nin0))
  have fx31 := ((p4.ext E4).keep K12 (ninS (Nat.ne_of_lt (nltle (p4).lt (Nat.le_of_eq g3.symm))) nin0))
  have fx32 := ((Exa.ext E4 p5).keep K12)
  have fx33 := ((Fld.ext E4 p6).keep K12 (ninS (Nat.ne_of_lt (nltle (p5).lt (Nat.le_of_eq g3.symm))) nin0))
  have fx34 := ((Fld.ext E4 p8).keep K12 (ninS (Nat.ne_of_lt (nltle (p5).lt (Nat.le_of_eq g3.symm))) nin0))
  have fx35 := ((p9.ext E4).keep K12 (ninS (Nat.ne_of_lt (nltle (p9).lt (Nat.le_of_eq g3.symm))) nin0))
  refine oq' C (a := u) (argsL := [(.ref v)]) (W := 0) d11_35 (hq hw 84 rfl) (decl_of (hq hw 85 rfl) (hq hw 88 rfl)) (nfS (hq hw 87 rfl)) (hq hw 87 rfl) (hq hw 85 rfl) fx28 (by decide) pd__Ljava_math_MutableBigInteger__Ljava_math_MutableBigInteger_ (ct_bg1 l Z a0 hw am (u := u) (t := t) (kt := kt) (x := x) (v := v) (s := s) (ks := ks) fx28 fx29 fx23 fx30 fx31 fx32 fx33 fx22 fx34 fx35 hx huv hts) rfl (Nat.le_of_eq rfl) rfl (by decide) (memsS (mi 2 rfl) (memsS (mi 3 rfl) (memsS (mi 4 rfl) mems0))) ?_
  intro fv36 ph37 K38 fq39
  obtain ⟨r40, rt41, kr42, rfl, fx43, fx44, fx45, fx46, fx47, fx48, fx49⟩ := fq39
  refine ⟨[r40, rt41], (freshS ⟨fx48, (fx43).lt⟩ (freshS ⟨fx49, (fx47).lt⟩ fresh0)), ?_⟩
  show Go l _ Z _ _ _ κ [r40, rt41, t14, b1, u, t, v] _ 38 _ [(.ref r40)] 4 8
  refine ob1' C (v := (.ref r40)) d11_38 rfl rfl rfl (by decide) (by decide) ?_
  exact ⟨r40, rt41, kr42, rfl, fx43, fx44, fx45, fx46, fx47, (Nat.le_trans E4.1 (Nat.le_trans K12.1 fx48)), (Nat.le_trans E4.1 (Nat.le_trans K12.1 fx49))⟩
theorem ct_cpo1 (l : Launch) (Z : State) (a0 : Array Value) (hw : HW a0 Z) {one t1 zero t0 pos neg : Addr} {k1 k0 kp kn : ClassId} {pvs nvs : List Value} (am : Amb Z a0 one t1 zero t0 pos neg k1 k0 kp kn pvs nvs) {t : Addr} {kt : ClassId} {x : Int32} {h0 : Heap} (p0 : Arv Z h0 t kt .int 1 [.int x] (.int 0)) (p1 : Exa Z h0 t "[I") :
    Py l Z (⟨"java/util/Arrays", "copyOf", "([II)[I"⟩ : MethodName) 2 28 1 1 #[(.ref t), .int 1] h0 [] (fun rv h' => ∃ (b : Addr), rv = some (.ref b) ∧ Arv Z h' b kt .int 1 [.int x] (.int 0) ∧ (h0.size ≤ b)) := by
  refine Ct.py (by0 := y33) (ml := 3) (rt := (some (.array .int))) (rm := ({ frames := 1, cells := 1, slots := 1, locals := 14 } : Room)) ?_ (hq hw 58 rfl) (hq hw 57 rfl)
  refine Ct.mk (a0 := a0) (Ls := #[.val (.ref t), .val (.int 1), .unset]) (plainFor_of_name pn_java_util_Arrays) (fun m => by simp [entryFrame, mkF, argsToLocals, Value.category]) ?_
  intro κ C
  show Go l _ Z _ _ _ κ [] h0 0 #[.val (.ref t), .val (.int 1), .unset] [] 0 0
  refine ob' C 1 d10_0 rfl rfl (od' C 2 d10_1 rfl rfl rfl (oe1' C 3 d10_2 rfl p0 (ol' C 6 d10_3 rfl (by decide) (od' C 7 d10_6 rfl rfl rfl ?_))))
  refine oi2' C 10 1 1 (W := 0) (cap := 1) d10_7 rfl rfl rfl (hq hw 59 rfl) (hq hw 60 rfl) (hq hw 64 rfl) (hq hw 62 rfl) (hq hw 63 rfl) (hq hw 65 rfl) p0 p1 rfl (by decide) (Nat.le_of_eq rfl) (by decide) (by decide) (by decide) (by decide) ?_
  intro b1 ph2 g3 E4 fx5 fx6
  refine os1' C 13 d10_10 rfl (hq hw 66 rfl) (Ins.self fx6) (ob1' C (v := (.ref b1)) d10_13 rfl rfl rfl (by decide) (by decide) ?_)
  exact ⟨b1, rfl, fx5, (Nat.le_of_eq g3.symm)⟩
theorem ct_mbi1 (l : Launch) (Z : State) (a0 : Array Value) (hw : HW a0 Z) {one t1 zero t0 pos neg : Addr} {k1 k0 kp kn : ClassId} {pvs nvs : List Value} (am : Amb Z a0 one t1 zero t0 pos neg k1 k0 kp kn pvs nvs) {u a t : Addr} {kt : ClassId} {x g : Int32} {h0 : Heap} (p0 : Exa Z h0 u "java/math/MutableBigInteger") (p1 : Fld Z h0 u "java/math/MutableBigInteger" "offset" "I" (.int 0)) (p2 : Fld Z h0 u "java/math/MutableBigInteger" "intLen" "I" (.int 0)) (p3 : Fld Z h0 u "java/math/MutableBigInteger" "value" "[I" .null) (p4 : Exa Z h0 a "java/math/BigInteger") (p5 : Fld Z h0 a "java/math/BigInteger" "signum" "I" (.int g)) (p6 : Fld Z h0 a "java/math/BigInteger" "mag" "[I" (.ref t)) (p7 : Arv Z h0 t kt .int 1 [.int x] (.int 0)) (p8 : Exa Z h0 t "[I") :
    Py l Z (⟨"java/math/MutableBigInteger", "<init>", "(Ljava/math/BigInteger;)V"⟩ : MethodName) 3 42 1 1 #[(.ref u), (.ref a)] h0 [u] (fun rv h' => ∃ (b : Addr), rv = none ∧ Exa Z h' u "java/math/MutableBigInteger" ∧ Fld Z h' u "java/math/MutableBigInteger" "offset" "I" (.int 0) ∧ Fld Z h' u "java/math/MutableBigInteger" "intLen" "I" (.int 1) ∧ Fld Z h' u "java/math/MutableBigInteger" "value" "[I" (.ref b) ∧ Arv Z h' b kt .int 1 [.int x] (.int 0) ∧ (h0.size ≤ b)) := by
  refine Ct.py (by0 := y22) (ml := 2) (rt := none) (rm := ({ frames := 2, cells := 1, slots := 1, locals := 29 } : Room)) ?_ (hq hw 47 rfl) (hq hw 43 rfl)
  refine Ct.mk (a0 := a0) (Ls := #[.val (.ref u), .val (.ref a)]) (plainFor_of_name pn_java_math_MutableBigInteger) (fun m => by simp [entryFrame, mkF, argsToLocals, Value.category]) ?_
  intro κ C
  show Go l _ Z _ _ _ κ [u] h0 0 #[.val (.ref u), .val (.ref a)] [] 0 0
  refine od' C 1 d9_0 rfl rfl rfl (oa2' C 4 (W := 0) d9_1 rfl (hq hw 48 rfl) (hq hw 17 rfl) (hq hw 18 rfl) rfl (by decide) (Nat.le_of_eq rfl) (by decide) (od' C 5 d9_4 rfl rfl rfl (oe' C 6 (0 : Int32) d9_5 rfl (by decide) (oi1' C 9 (ty := .int) d9_6 rfl (hq hw 49 rfl) Via.refl p1 p0 (Or.inl (hq hw 50 rfl)) (hq hw 42 rfl) (by decide) rfl rfl (mi 0 rfl) ?_))))
  intro ph1 W2
  have fx3 : Fld Z ph1 u "java/math/MutableBigInteger" "offset" "I" (.int 0) := Fld.same W2 p1
  refine od' C 10 d9_9 rfl rfl rfl (od' C 11 d9_10 rfl rfl rfl ?_)
  have fx4 := (Fld.other W2 p6 (Or.inl (Exa.ne p4 p0 (by decide))))
  refine og' C 14 d9_11 rfl (hq hw 51 rfl) Via.refl fx4 ?_
  have fx5 := (p7.other W2 (Exa.ne p8 p0 (by decide)))
  refine oe1' C 15 d9_14 rfl fx5 ?_
  have fx6 := (Fld.other W2 p2 (Or.inr (slot_ne (Or.inl (hq hw 54 rfl)) (Or.inl (hq hw 50 rfl)) (by decide) (t := .int) (t' := .int) (by decide) (by decide))))
  have fx7 := (Exa.wr W2 p0)
  refine oi1' C 18 (ty := .int) d9_15 rfl (hq hw 53 rfl) Via.refl fx6 fx7 (Or.inl (hq hw 54 rfl)) (hq hw 42 rfl) (by decide) rfl rfl (mi 0 rfl) ?_
  intro ph8 W9
  have fx10 : Fld Z ph8 u "java/math/MutableBigInteger" "intLen" "I" (.int 1) := Fld.same W9 fx6
  refine od' C 19 d9_18 rfl rfl rfl (od' C 20 d9_19 rfl rfl rfl ?_)
  have fx11 := (Fld.other W9 fx4 (Or.inl (Exa.ne p4 p0 (by decide))))
  refine og' C 23 d9_20 rfl (hq hw 51 rfl) Via.refl fx11 (od' C 24 d9_23 rfl rfl rfl (og' C 27 d9_24 rfl (hq hw 53 rfl) Via.refl fx10 ?_))
  have fx12 := (fx5.other W9 (Exa.ne p8 p0 (by decide)))
  have fx13 := (Exa.wr W9 (Exa.wr W2 p8))
  refine oc1' C (argsL := [(.ref t), .int 1]) (W := 1) d9_27 (hq hw 55 rfl) (hq hw 56 rfl) (hq hw 57 rfl) (hq hw 58 rfl) (by decide) pd___II__I (ct_cpo1 l Z a0 hw am (t := t) (kt := kt) (x := x) fx12 fx13) rfl (Nat.le_of_eq rfl) rfl (by decide) mems0 ?_
  intro fv14 ph15 K16 fq17
  obtain ⟨b18, rfl, fx19, fx20⟩ := fq17
  refine ⟨[b18], (freshS ⟨fx20, (fx19).lt⟩ fresh0), ?_⟩
  show Go l _ Z _ _ _ κ [b18, u] _ 30 _ [(.ref b18), (.ref u)] 1 1
  have fx21 := ((Fld.other W9 (Fld.other W2 p3 (Or.inr (slot_ne (Or.inl (hq hw 69 rfl)) (Or.inl (hq hw 50 rfl)) (by decide) (t := (.array .int)) (t' := .int) (by decide) (by decide)))) (Or.inr (slot_ne (Or.inl (hq hw 69 rfl)) (Or.inl (hq hw 54 rfl)) (by decide) (t := (.array .int)) (t' := .int) (by decide) (by decide)))).keep K16 nin0)
  have fx22 := ((Exa.wr W9 fx7).keep K16)
  refine oi1' C 33 (ty := (.array .int)) d9_30 rfl (hq hw 68 rfl) Via.refl fx21 fx22 (Or.inl (hq hw 69 rfl)) (hq hw 42 rfl) (by decide) rfl rfl (mi 1 rfl) ?_
  intro ph23 W24
  have fx25 : Fld Z ph23 u "java/math/MutableBigInteger" "value" "[I" (.ref b18) := Fld.same W24 fx21
  refine oi' C d9_33 rfl (by decide) (by decide) ?_
  have fx26 := (Exa.wr W24 fx22)
  have fx27 := (Fld.other W24 ((Fld.other W9 fx3 (Or.inr (slot_ne (Or.inl (hq hw 50 rfl)) (Or.inl (hq hw 54 rfl)) (by decide) (t := .int) (t' := .int) (by decide) (by decide)))).keep K16 nin0) (Or.inr (slot_ne (Or.inl (hq hw 50 rfl)) (Or.inl (hq hw 69 rfl)) (by decide) (t := .int) (t' := (.array .int)) (by decide) (by decide))))
  have fx28 := (Fld.other W24 (fx10.keep K16 nin0) (Or.inr (slot_ne (Or.inl (hq hw 54 rfl)) (Or.inl (hq hw 69 rfl)) (by decide) (t := .int) (t' := (.array .int)) (by decide) (by decide))))
  have fx29 := (fx19.other W24 (Ne.symm (Nat.ne_of_lt (nltle (nltle (nltle (p0).lt (Nat.le_of_eq W2.size.symm)) (Nat.le_of_eq W9.size.symm)) fx20))))
  exact ⟨b18, rfl, fx26, fx27, fx28, fx25, fx29, (Nat.le_trans (Nat.le_of_eq W2.size.symm) (Nat.le_trans (Nat.le_of_eq W9.size.symm) fx20))⟩
theorem ct_hg2 (l : Launch) (Z : State) (a0 : Array Value) (hw : HW a0 Z) {one t1 zero t0 pos neg : Addr} {k1 k0 kp kn : ClassId} {pvs nvs : List Value} (am : Amb Z a0 one t1 zero t0 pos neg k1 k0 kp kn pvs nvs) {u t : Addr} {kt : ClassId} {m0 m1 : Int32} {v s : Addr} {ks : ClassId} {h0 : Heap} (p0 : Exa Z h0 u "java/math/MutableBigInteger") (p1 : Fld Z h0 u "java/math/MutableBigInteger" "offset" "I" (.int 0)) (p2 : Fld Z h0 u "java/math/MutableBigInteger" "intLen" "I" (.int 2)) (p3 : Fld Z h0 u "java/math/MutableBigInteger" "value" "[I" (.ref t)) (p4 : Arv Z h0 t kt .int 2 [.int m0, .int m1] (.int 0)) (p5 : Exa Z h0 v "java/math/MutableBigInteger") (p6 : Fld Z h0 v "java/math/MutableBigInteger" "offset" "I" (.int 0)) (p7 : Fld Z h0 v "java/math/MutableBigInteger" "intLen" "I" (.int 1)) (p8 : Fld Z h0 v "java/math/MutableBigInteger" "value" "[I" (.ref s)) (p9 : Arv Z h0 s ks .int 1 [.int 1] (.int 0)) (h0z : ¬ (m0 = (0 : Int32))) (huv : u ≠ v) (hts : t ≠ s) :
    Py l Z (⟨"java/math/MutableBigInteger", "hybridGCD", "(Ljava/math/MutableBigInteger;)Ljava/math/MutableBigInteger;"⟩ : MethodName) 5 82 4 8 #[(.ref u), (.ref v)] h0 [u, t, v] (fun rv h' => ∃ (r : Addr) (rt : Addr) (kr : ClassId), rv = some (.ref r) ∧ Exa Z h' r "java/math/MutableBigInteger" ∧ Fld Z h' r "java/math/MutableBigInteger" "offset" "I" (.int 0) ∧ Fld Z h' r "java/math/MutableBigInteger" "intLen" "I" (.int 1) ∧ Fld Z h' r "java/math/MutableBigInteger" "value" "[I" (.ref rt) ∧ Arv Z h' rt kr .int 1 [.int 1] (.int 0) ∧ (h0.size ≤ r) ∧ (h0.size ≤ rt)) := by
  refine Ct.py (by0 := y24) (ml := 5) (rt := (some (.object "java/math/MutableBigInteger"))) (rm := ({ frames := 4, cells := 4, slots := 8, locals := 66 } : Room)) ?_ (hq hw 74 rfl) (hq hw 43 rfl)
  refine Ct.mk (a0 := a0) (Ls := #[.val (.ref u), .val (.ref v), .unset, .unset, .unset]) (plainFor_of_name pn_java_math_MutableBigInteger) (fun m => by simp [entryFrame, mkF, argsToLocals, Value.category]) ?_
  intro κ C
  show Go l _ Z _ _ _ κ [u, t, v] h0 0 #[.val (.ref u), .val (.ref v), .unset, .unset, .unset] [] 0 0
  refine od' C 1 d11_0 rfl rfl rfl (oj1' C 2 (Ls' := #[.val (.ref u), .val (.ref v), .val (.ref u), .unset, .unset]) d11_1 rfl rfl rfl (ok1' C 5 1 3 d11_2 rfl rfl rfl (hq hw 75 rfl) (hq hw 42 rfl) (hq hw 43 rfl) (by decide) (by decide) ?_))
  intro b1 ph2 g3 E4 A5 D6
  have fx7 : Fld Z ph2 b1 "java/math/MutableBigInteger" "offset" "I" (.int 0) := D6 (Or.inl (hq hw 50 rfl)) (ty := .int) (by decide)
  have fx8 : Fld Z ph2 b1 "java/math/MutableBigInteger" "intLen" "I" (.int 0) := D6 (Or.inl (hq hw 54 rfl)) (ty := .int) (by decide)
  have fx9 : Fld Z ph2 b1 "java/math/MutableBigInteger" "value" "[I" .null := D6 (Or.inl (hq hw 69 rfl)) (ty := (.array .int)) (by decide)
  refine of1' C 6 d11_5 rfl rfl (ol1' C (a := b1) (argsL := []) (W := 1) d11_6 rfl (hq hw 76 rfl) (hq hw 77 rfl) (hq hw 78 rfl) (by decide) pd___V (ct_mbi0 l Z a0 hw am (u := b1) A5 fx7 fx8 fx9) rfl (Nat.le_of_eq rfl) rfl (by decide) (memsS (mi 0 rfl) mems0) ?_)
  intro fv10 ph11 K12 fq13
  obtain ⟨t14, kt15, rfl, fx16, fx17, fx18, fx19, fx20, fx21⟩ := fq13
  refine ⟨[t14], (freshS ⟨fx21, (fx20).lt⟩ fresh0), ?_⟩
  show Go l _ Z _ _ _ κ [t14, b1, u, t, v] _ 9 _ [(.ref b1)] 2 4
  refine oj1' C 10 (Ls' := #[.val (.ref u), .val (.ref v), .val (.ref u), .val (.ref b1), .unset]) d11_9 rfl rfl rfl (od' C 11 d11_10 rfl rfl rfl ?_)
  have fx22 := ((Fld.ext E4 p7).keep K12 (ninS (Nat.ne_of_lt (nltle (p5).lt (Nat.le_of_eq g3.symm))) nin0))
  refine og' C 14 d11_11 rfl (hq hw 53 rfl) Via.refl fx22 (or' C 17 d11_14 rfl (by decide) (od' C 18 d11_17 rfl rfl rfl ?_))
  have fx23 := ((Fld.ext E4 p2).keep K12 (ninS (Nat.ne_of_lt (nltle (p0).lt (Nat.le_of_eq g3.symm))) nin0))
  refine og' C 21 d11_18 rfl (hq hw 53 rfl) Via.refl fx23 (od' C 22 d11_21 rfl rfl rfl (og' C 25 d11_22 rfl (hq hw 53 rfl) Via.refl fx22 (ow' C 26 (1 : Int32) d11_25 rfl (by decide) (oc1' C (argsL := [.int 1]) (W := 0) d11_26 (hq hw 80 rfl) (hq hw 81 rfl) (hq hw 82 rfl) (hq hw 83 rfl) (by decide) pd__I_I (ct_mabs1 l Z a0 hw am) rfl (Nat.le_of_eq rfl) rfl (by decide) mems0 ?_))))
  intro fv24 ph25 K26 fq27
  obtain ⟨rfl, rfl⟩ := fq27
  refine ⟨[], fresh0, ?_⟩
  show Go l _ Z _ _ _ κ _ _ 29 _ [.int 1] 2 4
  refine oe' C 30 (2 : Int32) d11_29 rfl (by decide) (ol' C 33 d11_30 rfl (by decide) (od' C 34 d11_33 rfl rfl rfl (od' C 35 d11_34 rfl rfl rfl ?_)))
  have fx28 := ((Exa.ext E4 p0).keep K12)
  have fx29 := ((Fld.ext E4 p1).keep K12 (ninS (Nat.ne_of_lt (nltle (p0).lt (Nat.le_of_eq g3.symm))) nin0))
  have fx30 := ((Fld.ext E4 p3).keep K12 (ninS (Nat.ne_of_lt (nltle (p0).lt (Nat.le_of_eq g3.symm))) nin0))
  have fx31 := ((p4.ext E4).keep K12 (ninS (Nat.ne_of_lt (nltle (p4).lt (Nat.le_of_eq g3.symm))) nin0))
  have fx32 := ((Exa.ext E4 p5).keep K12)
  have fx33 := ((Fld.ext E4 p6).keep K12 (ninS (Nat.ne_of_lt (nltle (p5).lt (Nat.le_of_eq g3.symm))) nin0))
  have fx34 := ((Fld.ext E4 p8).keep K12 (ninS (Nat.ne_of_lt (nltle (p5).lt (Nat.le_of_eq g3.symm))) nin0))
  have fx35 := ((p9.ext E4).keep K12 (ninS (Nat.ne_of_lt (nltle (p9).lt (Nat.le_of_eq g3.symm))) nin0))
  refine oq' C (a := u) (argsL := [(.ref v)]) (W := 0) d11_35 (hq hw 84 rfl) (decl_of (hq hw 85 rfl) (hq hw 88 rfl)) (nfS (hq hw 87 rfl)) (hq hw 87 rfl) (hq hw 85 rfl) fx28 (by decide) pd__Ljava_math_MutableBigInteger__Ljava_math_MutableBigInteger_ (ct_bg2 l Z a0 hw am (u := u) (t := t) (kt := kt) (m0 := m0) (m1 := m1) (v := v) (s := s) (ks := ks) fx28 fx29 fx23 fx30 fx31 fx32 fx33 fx22 fx34 fx35 h0z huv hts) rfl (Nat.le_of_eq rfl) rfl (by decide) (memsS (mi 2 rfl) (memsS (mi 3 rfl) (memsS (mi 4 rfl) mems0))) ?_
  intro fv36 ph37 K38 fq39
  obtain ⟨r40, rt41, kr42, rfl, fx43, fx44, fx45, fx46, fx47, fx48, fx49⟩ := fq39
  refine ⟨[r40, rt41], (freshS ⟨fx48, (fx43).lt⟩ (freshS ⟨fx49, (fx47).lt⟩ fresh0)), ?_⟩
  show Go l _ Z _ _ _ κ [r40, rt41, t14, b1, u, t, v] _ 38 _ [(.ref r40)] 4 8
  refine ob1' C (v := (.ref r40)) d11_38 rfl rfl rfl (by decide) (by decide) ?_
  exact ⟨r40, rt41, kr42, rfl, fx43, fx44, fx45, fx46, fx47, (Nat.le_trans E4.1 (Nat.le_trans K12.1 fx48)), (Nat.le_trans E4.1 (Nat.le_trans K12.1 fx49))⟩
theorem ct_cpo2 (l : Launch) (Z : State) (a0 : Array Value) (hw : HW a0 Z) {one t1 zero t0 pos neg : Addr} {k1 k0 kp kn : ClassId} {pvs nvs : List Value} (am : Amb Z a0 one t1 zero t0 pos neg k1 k0 kp kn pvs nvs) {t : Addr} {kt : ClassId} {m0 m1 : Int32} {h0 : Heap} (p0 : Arv Z h0 t kt .int 2 [.int m0, .int m1] (.int 0)) (p1 : Exa Z h0 t "[I") :
    Py l Z (⟨"java/util/Arrays", "copyOf", "([II)[I"⟩ : MethodName) 2 28 1 2 #[(.ref t), .int 2] h0 [] (fun rv h' => ∃ (b : Addr), rv = some (.ref b) ∧ Arv Z h' b kt .int 2 [.int m0, .int m1] (.int 0) ∧ (h0.size ≤ b)) := by
  refine Ct.py (by0 := y33) (ml := 3) (rt := (some (.array .int))) (rm := ({ frames := 1, cells := 1, slots := 2, locals := 14 } : Room)) ?_ (hq hw 58 rfl) (hq hw 57 rfl)
  refine Ct.mk (a0 := a0) (Ls := #[.val (.ref t), .val (.int 2), .unset]) (plainFor_of_name pn_java_util_Arrays) (fun m => by simp [entryFrame, mkF, argsToLocals, Value.category]) ?_
  intro κ C
  show Go l _ Z _ _ _ κ [] h0 0 #[.val (.ref t), .val (.int 2), .unset] [] 0 0
  refine ob' C 1 d10_0 rfl rfl (od' C 2 d10_1 rfl rfl rfl (oe1' C 3 d10_2 rfl p0 (ol' C 6 d10_3 rfl (by decide) (od' C 7 d10_6 rfl rfl rfl ?_))))
  refine oi2' C 10 1 2 (W := 0) (cap := 2) d10_7 rfl rfl rfl (hq hw 59 rfl) (hq hw 60 rfl) (hq hw 64 rfl) (hq hw 62 rfl) (hq hw 63 rfl) (hq hw 65 rfl) p0 p1 rfl (by decide) (Nat.le_of_eq rfl) (by decide) (by decide) (by decide) (by decide) ?_
  intro b1 ph2 g3 E4 fx5 fx6
  refine os1' C 13 d10_10 rfl (hq hw 66 rfl) (Ins.self fx6) (ob1' C (v := (.ref b1)) d10_13 rfl rfl rfl (by decide) (by decide) ?_)
  exact ⟨b1, rfl, fx5, (Nat.le_of_eq g3.symm)⟩
theorem ct_mbi2 (l : Launch) (Z : State) (a0 : Array Value) (hw : HW a0 Z) {one t1 zero t0 pos neg : Addr} {k1 k0 kp kn : ClassId} {pvs nvs : List Value} (am : Amb Z a0 one t1 zero t0 pos neg k1 k0 kp kn pvs nvs) {u a t : Addr} {kt : ClassId} {m0 m1 g : Int32} {h0 : Heap} (p0 : Exa Z h0 u "java/math/MutableBigInteger") (p1 : Fld Z h0 u "java/math/MutableBigInteger" "offset" "I" (.int 0)) (p2 : Fld Z h0 u "java/math/MutableBigInteger" "intLen" "I" (.int 0)) (p3 : Fld Z h0 u "java/math/MutableBigInteger" "value" "[I" .null) (p4 : Exa Z h0 a "java/math/BigInteger") (p5 : Fld Z h0 a "java/math/BigInteger" "signum" "I" (.int g)) (p6 : Fld Z h0 a "java/math/BigInteger" "mag" "[I" (.ref t)) (p7 : Arv Z h0 t kt .int 2 [.int m0, .int m1] (.int 0)) (p8 : Exa Z h0 t "[I") :
    Py l Z (⟨"java/math/MutableBigInteger", "<init>", "(Ljava/math/BigInteger;)V"⟩ : MethodName) 3 42 1 2 #[(.ref u), (.ref a)] h0 [u] (fun rv h' => ∃ (b : Addr), rv = none ∧ Exa Z h' u "java/math/MutableBigInteger" ∧ Fld Z h' u "java/math/MutableBigInteger" "offset" "I" (.int 0) ∧ Fld Z h' u "java/math/MutableBigInteger" "intLen" "I" (.int 2) ∧ Fld Z h' u "java/math/MutableBigInteger" "value" "[I" (.ref b) ∧ Arv Z h' b kt .int 2 [.int m0, .int m1] (.int 0) ∧ (h0.size ≤ b)) := by
  refine Ct.py (by0 := y22) (ml := 2) (rt := none) (rm := ({ frames := 2, cells := 1, slots := 2, locals := 29 } : Room)) ?_ (hq hw 47 rfl) (hq hw 43 rfl)
  refine Ct.mk (a0 := a0) (Ls := #[.val (.ref u), .val (.ref a)]) (plainFor_of_name pn_java_math_MutableBigInteger) (fun m => by simp [entryFrame, mkF, argsToLocals, Value.category]) ?_
  intro κ C
  show Go l _ Z _ _ _ κ [u] h0 0 #[.val (.ref u), .val (.ref a)] [] 0 0
  refine od' C 1 d9_0 rfl rfl rfl (oa2' C 4 (W := 0) d9_1 rfl (hq hw 48 rfl) (hq hw 17 rfl) (hq hw 18 rfl) rfl (by decide) (Nat.le_of_eq rfl) (by decide) (od' C 5 d9_4 rfl rfl rfl (oe' C 6 (0 : Int32) d9_5 rfl (by decide) (oi1' C 9 (ty := .int) d9_6 rfl (hq hw 49 rfl) Via.refl p1 p0 (Or.inl (hq hw 50 rfl)) (hq hw 42 rfl) (by decide) rfl rfl (mi 0 rfl) ?_))))
  intro ph1 W2
  have fx3 : Fld Z ph1 u "java/math/MutableBigInteger" "offset" "I" (.int 0) := Fld.same W2 p1
  refine od' C 10 d9_9 rfl rfl rfl (od' C 11 d9_10 rfl rfl rfl ?_)
  have fx4 := (Fld.other W2 p6 (Or.inl (Exa.ne p4 p0 (by decide))))
  refine og' C 14 d9_11 rfl (hq hw 51 rfl) Via.refl fx4 ?_
  have fx5 := (p7.other W2 (Exa.ne p8 p0 (by decide)))
  refine oe1' C 15 d9_14 rfl fx5 ?_
  have fx6 := (Fld.other W2 p2 (Or.inr (slot_ne (Or.inl (hq hw 54 rfl)) (Or.inl (hq hw 50 rfl)) (by decide) (t := .int) (t' := .int) (by decide) (by decide))))
  have fx7 := (Exa.wr W2 p0)
  refine oi1' C 18 (ty := .int) d9_15 rfl (hq hw 53 rfl) Via.refl fx6 fx7 (Or.inl (hq hw 54 rfl)) (hq hw 42 rfl) (by decide) rfl rfl (mi 0 rfl) ?_
  intro ph8 W9
  have fx10 : Fld Z ph8 u "java/math/MutableBigInteger" "intLen" "I" (.int 2) := Fld.same W9 fx6
  refine od' C 19 d9_18 rfl rfl rfl (od' C 20 d9_19 rfl rfl rfl ?_)
  have fx11 := (Fld.other W9 fx4 (Or.inl (Exa.ne p4 p0 (by decide))))
  refine og' C 23 d9_20 rfl (hq hw 51 rfl) Via.refl fx11 (od' C 24 d9_23 rfl rfl rfl (og' C 27 d9_24 rfl (hq hw 53 rfl) Via.refl fx10 ?_))
  have fx12 := (fx5.other W9 (Exa.ne p8 p0 (by decide)))
  have fx13 := (Exa.wr W9 (Exa.wr W2 p8))
  refine oc1' C (argsL := [(.ref t), .int 2]) (W := 1) d9_27 (hq hw 55 rfl) (hq hw 56 rfl) (hq hw 57 rfl) (hq hw 58 rfl) (by decide) pd___II__I (ct_cpo2 l Z a0 hw am (t := t) (kt := kt) (m0 := m0) (m1 := m1) fx12 fx13) rfl (Nat.le_of_eq rfl) rfl (by decide) mems0 ?_
  intro fv14 ph15 K16 fq17
  obtain ⟨b18, rfl, fx19, fx20⟩ := fq17
  refine ⟨[b18], (freshS ⟨fx20, (fx19).lt⟩ fresh0), ?_⟩
  show Go l _ Z _ _ _ κ [b18, u] _ 30 _ [(.ref b18), (.ref u)] 1 2
  have fx21 := ((Fld.other W9 (Fld.other W2 p3 (Or.inr (slot_ne (Or.inl (hq hw 69 rfl)) (Or.inl (hq hw 50 rfl)) (by decide) (t := (.array .int)) (t' := .int) (by decide) (by decide)))) (Or.inr (slot_ne (Or.inl (hq hw 69 rfl)) (Or.inl (hq hw 54 rfl)) (by decide) (t := (.array .int)) (t' := .int) (by decide) (by decide)))).keep K16 nin0)
  have fx22 := ((Exa.wr W9 fx7).keep K16)
  refine oi1' C 33 (ty := (.array .int)) d9_30 rfl (hq hw 68 rfl) Via.refl fx21 fx22 (Or.inl (hq hw 69 rfl)) (hq hw 42 rfl) (by decide) rfl rfl (mi 1 rfl) ?_
  intro ph23 W24
  have fx25 : Fld Z ph23 u "java/math/MutableBigInteger" "value" "[I" (.ref b18) := Fld.same W24 fx21
  refine oi' C d9_33 rfl (by decide) (by decide) ?_
  have fx26 := (Exa.wr W24 fx22)
  have fx27 := (Fld.other W24 ((Fld.other W9 fx3 (Or.inr (slot_ne (Or.inl (hq hw 50 rfl)) (Or.inl (hq hw 54 rfl)) (by decide) (t := .int) (t' := .int) (by decide) (by decide)))).keep K16 nin0) (Or.inr (slot_ne (Or.inl (hq hw 50 rfl)) (Or.inl (hq hw 69 rfl)) (by decide) (t := .int) (t' := (.array .int)) (by decide) (by decide))))
  have fx28 := (Fld.other W24 (fx10.keep K16 nin0) (Or.inr (slot_ne (Or.inl (hq hw 54 rfl)) (Or.inl (hq hw 69 rfl)) (by decide) (t := .int) (t' := (.array .int)) (by decide) (by decide))))
  have fx29 := (fx19.other W24 (Ne.symm (Nat.ne_of_lt (nltle (nltle (nltle (p0).lt (Nat.le_of_eq W2.size.symm)) (Nat.le_of_eq W9.size.symm)) fx20))))
  exact ⟨b18, rfl, fx26, fx27, fx28, fx25, fx29, (Nat.le_trans (Nat.le_of_eq W2.size.symm) (Nat.le_trans (Nat.le_of_eq W9.size.symm) fx20))⟩
theorem ct_gma (l : Launch) (Z : State) (a0 : Array Value) (hw : HW a0 Z) {one t1 zero t0 pos neg : Addr} {k1 k0 kp kn : ClassId} {pvs nvs : List Value} (am : Amb Z a0 one t1 zero t0 pos neg k1 k0 kp kn pvs nvs) {r rt : Addr} {kr : ClassId} {h0 : Heap} (p0 : Exa Z h0 r "java/math/MutableBigInteger") (p1 : Fld Z h0 r "java/math/MutableBigInteger" "offset" "I" (.int 0)) (p2 : Fld Z h0 r "java/math/MutableBigInteger" "intLen" "I" (.int 1)) (p3 : Fld Z h0 r "java/math/MutableBigInteger" "value" "[I" (.ref rt)) (p4 : Arv Z h0 rt kr .int 1 [.int 1] (.int 0)) :
    Py l Z (⟨"java/math/MutableBigInteger", "getMagnitudeArray", "()[I"⟩ : MethodName) 1 13 0 0 #[(.ref r)] h0 [] (fun rv h' => rv = some (.ref rt) ∧ h' = h0) := by
  refine Ct.py (by0 := y27) (ml := 2) (rt := (some (.array .int))) (rm := ({ frames := 0, cells := 0, slots := 0, locals := 0 } : Room)) ?_ (hq hw 119 rfl) (hq hw 43 rfl)
  refine Ct.mk (a0 := a0) (Ls := #[.val (.ref r), .unset]) (plainFor_of_name pn_java_math_MutableBigInteger) (fun m => by simp [entryFrame, mkF, argsToLocals, Value.category]) ?_
  intro κ C
  show Go l _ Z _ _ _ κ [] h0 0 #[.val (.ref r), .unset] [] 0 0
  refine od' C 1 d20_0 rfl rfl rfl (og' C 4 d20_1 rfl (hq hw 49 rfl) Via.refl p1 (or' C 7 d20_4 rfl (by decide) (od' C 8 d20_7 rfl rfl rfl (og' C 11 d20_8 rfl (hq hw 68 rfl) Via.refl p3 ?_))))
  refine oe1' C 12 d20_11 rfl p4 (od' C 13 d20_12 rfl rfl rfl (og' C 16 d20_13 rfl (hq hw 53 rfl) Via.refl p2 (oj' C (pc' := 64) d20_16 (by decide) (by decide) (by decide) (od' C 65 d20_64 rfl rfl rfl ?_))))
  refine og' C 68 d20_65 rfl (hq hw 68 rfl) Via.refl p3 (ob1' C (v := (.ref rt)) d20_68 rfl rfl rfl (by decide) (by decide) ?_)
  exact ⟨rfl, rfl⟩
theorem ct_num (l : Launch) (Z : State) (a0 : Array Value) (hw : HW a0 Z) {one t1 zero t0 pos neg : Addr} {k1 k0 kp kn : ClassId} {pvs nvs : List Value} (am : Amb Z a0 one t1 zero t0 pos neg k1 k0 kp kn pvs nvs) {a : Addr} {h0 : Heap} :
    Py l Z (⟨"java/lang/Number", "<init>", "()V"⟩ : MethodName) 2 24 0 0 #[(.ref a)] h0 [] (fun rv h' => rv = none ∧ h' = h0) := by
  refine Ct.py (by0 := y0) (ml := 1) (rt := none) (rm := ({ frames := 1, cells := 0, slots := 0, locals := 12 } : Room)) ?_ (hq hw 129 rfl) (hq hw 128 rfl)
  refine Ct.mk (a0 := a0) (Ls := #[.val (.ref a)]) (plainFor_of_name pn_java_lang_Number) (fun m => by simp [entryFrame, mkF, argsToLocals, Value.category]) ?_
  intro κ C
  show Go l _ Z _ _ _ κ [] h0 0 #[.val (.ref a)] [] 0 0
  refine od' C 1 d22_0 rfl rfl rfl (oa2' C 4 (W := 0) d22_1 rfl (hq hw 130 rfl) (hq hw 17 rfl) (hq hw 18 rfl) rfl (by decide) (Nat.le_of_eq rfl) (by decide) (oi' C d22_4 rfl (by decide) (by decide) ?_))
  exact ⟨rfl, rfl⟩
theorem ct_bim1 (l : Launch) (Z : State) (a0 : Array Value) (hw : HW a0 Z) {one t1 zero t0 pos neg : Addr} {k1 k0 kp kn : ClassId} {pvs nvs : List Value} (am : Amb Z a0 one t1 zero t0 pos neg k1 k0 kp kn pvs nvs) {a t : Addr} {kt : ClassId} {g : Int32} {vs : List Value} {h0 : Heap} (p0 : Exa Z h0 a "java/math/BigInteger") (p1 : Fld Z h0 a "java/math/BigInteger" "signum" "I" (.int 0)) (p2 : Fld Z h0 a "java/math/BigInteger" "mag" "[I" .null) (p3 : Arv Z h0 t kt .int 1 vs (.int 0)) :
    Py l Z (⟨"java/math/BigInteger", "<init>", "([II)V"⟩ : MethodName) 3 38 0 0 #[(.ref a), (.ref t), .int g] h0 [a] (fun rv h' => rv = none ∧ Exa Z h' a "java/math/BigInteger" ∧ Fld Z h' a "java/math/BigInteger" "signum" "I" (.int g) ∧ Fld Z h' a "java/math/BigInteger" "mag" "[I" (.ref t)) := by
  refine Ct.py (by0 := y5) (ml := 3) (rt := none) (rm := ({ frames := 2, cells := 0, slots := 0, locals := 24 } : Room)) ?_ (hq hw 123 rfl) (hq hw 8 rfl)
  refine Ct.mk (a0 := a0) (Ls := #[.val (.ref a), .val (.ref t), .val (.int g)]) (plainFor_of_name pn_java_math_BigInteger) (fun m => by simp [entryFrame, mkF, argsToLocals, Value.category]) ?_
  intro κ C
  show Go l _ Z _ _ _ κ [a] h0 0 #[.val (.ref a), .val (.ref t), .val (.int g)] [] 0 0
  refine od' C 1 d21_0 rfl rfl rfl (ol1' C (a := a) (argsL := []) (W := 0) d21_1 rfl (hq hw 124 rfl) (hq hw 125 rfl) (hq hw 129 rfl) (by decide) pd___V (ct_num l Z a0 hw am (a := a)) rfl (Nat.le_of_eq rfl) rfl (by decide) mems0 ?_)
  intro fv1 ph2 K3 fq4
  obtain ⟨rfl, rfl⟩ := fq4
  refine ⟨[], fresh0, ?_⟩
  show Go l _ Z _ _ _ κ _ _ 4 _ [] 0 0
  refine od' C 5 d21_4 rfl rfl rfl (od' C 6 d21_5 rfl rfl rfl (oe1' C 7 d21_6 rfl p3 (on' C (pc' := 14) d21_7 (by decide) (by decide) (by decide) (ob' C 15 d21_14 rfl rfl ?_))))
  refine oi1' C 18 (ty := .int) d21_15 rfl (hq hw 34 rfl) Via.refl p1 p0 (Or.inr ⟨(hq hw 35 rfl), rfl, rfl⟩) (hq hw 114 rfl) (by decide) rfl rfl (mi 0 rfl) ?_
  intro ph5 W6
  have fx7 : Fld Z ph5 a "java/math/BigInteger" "signum" "I" (.int g) := Fld.same W6 p1
  refine od' C 19 d21_18 rfl rfl rfl (od' C 20 d21_19 rfl rfl rfl ?_)
  have fx8 := (Fld.other W6 p2 (Or.inr (slot_ne (Or.inr (hq hw 52 rfl)) (Or.inr (hq hw 35 rfl)) (by decide) (t := (.array .int)) (t' := .int) (by decide) (by decide))))
  have fx9 := (Exa.wr W6 p0)
  refine oi1' C 23 (ty := (.array .int)) d21_20 rfl (hq hw 131 rfl) Via.refl fx8 fx9 (Or.inr ⟨(hq hw 52 rfl), rfl, rfl⟩) (hq hw 114 rfl) (by decide) rfl rfl (mi 0 rfl) ?_
  intro ph10 W11
  have fx12 : Fld Z ph10 a "java/math/BigInteger" "mag" "[I" (.ref t) := Fld.same W11 fx8
  refine od' C 24 d21_23 rfl rfl rfl (og' C 27 d21_24 rfl (hq hw 131 rfl) Via.refl fx12 ?_)
  have fx13 := ((p3.other W6 (Ne.symm (Exa.neArv p0 p3 (hq hw 114 rfl)))).other W11 (Ne.symm (Exa.neArv p0 p3 (hq hw 114 rfl))))
  refine oe1' C 28 d21_27 rfl fx13 (oc2' C 30 (v := (67108864 : Int32)) d21_28 rfl (hq hw 132 rfl) (oj' C (pc' := 37) d21_30 (by decide) (by decide) (by decide) (oi' C d21_37 rfl (by decide) (by decide) ?_)))
  have fx14 := (Exa.wr W11 fx9)
  have fx15 := (Fld.other W11 fx7 (Or.inr (slot_ne (Or.inr (hq hw 35 rfl)) (Or.inr (hq hw 52 rfl)) (by decide) (t := .int) (t' := (.array .int)) (by decide) (by decide))))
  exact ⟨rfl, fx14, fx15, fx12⟩
theorem ct_bim2 (l : Launch) (Z : State) (a0 : Array Value) (hw : HW a0 Z) {one t1 zero t0 pos neg : Addr} {k1 k0 kp kn : ClassId} {pvs nvs : List Value} (am : Amb Z a0 one t1 zero t0 pos neg k1 k0 kp kn pvs nvs) {a t : Addr} {kt : ClassId} {g : Int32} {vs : List Value} {h0 : Heap} (p0 : Exa Z h0 a "java/math/BigInteger") (p1 : Fld Z h0 a "java/math/BigInteger" "signum" "I" (.int 0)) (p2 : Fld Z h0 a "java/math/BigInteger" "mag" "[I" .null) (p3 : Arv Z h0 t kt .int 2 vs (.int 0)) :
    Py l Z (⟨"java/math/BigInteger", "<init>", "([II)V"⟩ : MethodName) 3 38 0 0 #[(.ref a), (.ref t), .int g] h0 [a] (fun rv h' => rv = none ∧ Exa Z h' a "java/math/BigInteger" ∧ Fld Z h' a "java/math/BigInteger" "signum" "I" (.int g) ∧ Fld Z h' a "java/math/BigInteger" "mag" "[I" (.ref t)) := by
  refine Ct.py (by0 := y5) (ml := 3) (rt := none) (rm := ({ frames := 2, cells := 0, slots := 0, locals := 24 } : Room)) ?_ (hq hw 123 rfl) (hq hw 8 rfl)
  refine Ct.mk (a0 := a0) (Ls := #[.val (.ref a), .val (.ref t), .val (.int g)]) (plainFor_of_name pn_java_math_BigInteger) (fun m => by simp [entryFrame, mkF, argsToLocals, Value.category]) ?_
  intro κ C
  show Go l _ Z _ _ _ κ [a] h0 0 #[.val (.ref a), .val (.ref t), .val (.int g)] [] 0 0
  refine od' C 1 d21_0 rfl rfl rfl (ol1' C (a := a) (argsL := []) (W := 0) d21_1 rfl (hq hw 124 rfl) (hq hw 125 rfl) (hq hw 129 rfl) (by decide) pd___V (ct_num l Z a0 hw am (a := a)) rfl (Nat.le_of_eq rfl) rfl (by decide) mems0 ?_)
  intro fv1 ph2 K3 fq4
  obtain ⟨rfl, rfl⟩ := fq4
  refine ⟨[], fresh0, ?_⟩
  show Go l _ Z _ _ _ κ _ _ 4 _ [] 0 0
  refine od' C 5 d21_4 rfl rfl rfl (od' C 6 d21_5 rfl rfl rfl (oe1' C 7 d21_6 rfl p3 (on' C (pc' := 14) d21_7 (by decide) (by decide) (by decide) (ob' C 15 d21_14 rfl rfl ?_))))
  refine oi1' C 18 (ty := .int) d21_15 rfl (hq hw 34 rfl) Via.refl p1 p0 (Or.inr ⟨(hq hw 35 rfl), rfl, rfl⟩) (hq hw 114 rfl) (by decide) rfl rfl (mi 0 rfl) ?_
  intro ph5 W6
  have fx7 : Fld Z ph5 a "java/math/BigInteger" "signum" "I" (.int g) := Fld.same W6 p1
  refine od' C 19 d21_18 rfl rfl rfl (od' C 20 d21_19 rfl rfl rfl ?_)
  have fx8 := (Fld.other W6 p2 (Or.inr (slot_ne (Or.inr (hq hw 52 rfl)) (Or.inr (hq hw 35 rfl)) (by decide) (t := (.array .int)) (t' := .int) (by decide) (by decide))))
  have fx9 := (Exa.wr W6 p0)
  refine oi1' C 23 (ty := (.array .int)) d21_20 rfl (hq hw 131 rfl) Via.refl fx8 fx9 (Or.inr ⟨(hq hw 52 rfl), rfl, rfl⟩) (hq hw 114 rfl) (by decide) rfl rfl (mi 0 rfl) ?_
  intro ph10 W11
  have fx12 : Fld Z ph10 a "java/math/BigInteger" "mag" "[I" (.ref t) := Fld.same W11 fx8
  refine od' C 24 d21_23 rfl rfl rfl (og' C 27 d21_24 rfl (hq hw 131 rfl) Via.refl fx12 ?_)
  have fx13 := ((p3.other W6 (Ne.symm (Exa.neArv p0 p3 (hq hw 114 rfl)))).other W11 (Ne.symm (Exa.neArv p0 p3 (hq hw 114 rfl))))
  refine oe1' C 28 d21_27 rfl fx13 (oc2' C 30 (v := (67108864 : Int32)) d21_28 rfl (hq hw 132 rfl) (oj' C (pc' := 37) d21_30 (by decide) (by decide) (by decide) (oi' C d21_37 rfl (by decide) (by decide) ?_)))
  have fx14 := (Exa.wr W11 fx9)
  have fx15 := (Fld.other W11 fx7 (Or.inr (slot_ne (Or.inr (hq hw 35 rfl)) (Or.inr (hq hw 52 rfl)) (by decide) (t := .int) (t' := (.array .int)) (by decide) (by decide))))
  exact ⟨rfl, fx14, fx15, fx12⟩
theorem ct_tbi (l : Launch) (Z : State) (a0 : Array Value) (hw : HW a0 Z) {one t1 zero t0 pos neg : Addr} {k1 k0 kp kn : ClassId} {pvs nvs : List Value} (am : Amb Z a0 one t1 zero t0 pos neg k1 k0 kp kn pvs nvs) {r rt : Addr} {kr : ClassId} {h0 : Heap} (p0 : Exa Z h0 r "java/math/MutableBigInteger") (p1 : Fld Z h0 r "java/math/MutableBigInteger" "offset" "I" (.int 0)) (p2 : Fld Z h0 r "java/math/MutableBigInteger" "intLen" "I" (.int 1)) (p3 : Fld Z h0 r "java/math/MutableBigInteger" "value" "[I" (.ref rt)) (p4 : Arv Z h0 rt kr .int 1 [.int 1] (.int 0)) :
    Py l Z (⟨"java/math/MutableBigInteger", "toBigInteger", "(I)Ljava/math/BigInteger;"⟩ : MethodName) 4 52 1 6 #[(.ref r), .int 1] h0 [] (fun rv h' => ∃ (a : Addr), rv = some (.ref a) ∧ Exa Z h' a "java/math/BigInteger" ∧ Fld Z h' a "java/math/BigInteger" "signum" "I" (.int 1) ∧ Fld Z h' a "java/math/BigInteger" "mag" "[I" (.ref rt) ∧ Arv Z h' rt kr .int 1 [.int 1] (.int 0) ∧ (h0.size ≤ a)) := by
  refine Ct.py (by0 := y28) (ml := 2) (rt := (some (.object "java/math/BigInteger"))) (rm := ({ frames := 3, cells := 1, slots := 6, locals := 39 } : Room)) ?_ (hq hw 112 rfl) (hq hw 43 rfl)
  refine Ct.mk (a0 := a0) (Ls := #[.val (.ref r), .val (.int 1)]) (plainFor_of_name pn_java_math_MutableBigInteger) (fun m => by simp [entryFrame, mkF, argsToLocals, Value.category]) ?_
  intro κ C
  show Go l _ Z _ _ _ κ [] h0 0 #[.val (.ref r), .val (.int 1)] [] 0 0
  refine od' C 1 d19_0 rfl rfl rfl (og' C 4 d19_1 rfl (hq hw 53 rfl) Via.refl p2 (or' C 7 d19_4 rfl (by decide) (ob' C 8 d19_7 rfl rfl (on' C (pc' := 15) d19_8 (by decide) (by decide) (by decide) ?_))))
  refine ok1' C 18 1 6 d19_15 rfl rfl rfl (hq hw 113 rfl) (hq hw 114 rfl) (hq hw 8 rfl) (by decide) (by decide) ?_
  intro b1 ph2 g3 E4 A5 D6
  have fx7 : Fld Z ph2 b1 "java/math/BigInteger" "signum" "I" (.int 0) := D6 (Or.inr (hq hw 35 rfl)) (ty := .int) (by decide)
  have fx8 : Fld Z ph2 b1 "java/math/BigInteger" "mag" "[I" .null := D6 (Or.inr (hq hw 52 rfl)) (ty := (.array .int)) (by decide)
  refine of1' C 19 d19_18 rfl rfl (od' C 20 d19_19 rfl rfl rfl ?_)
  have fx9 := (Exa.ext E4 p0)
  have fx10 := (Fld.ext E4 p1)
  have fx11 := (Fld.ext E4 p2)
  have fx12 := (Fld.ext E4 p3)
  have fx13 := (p4.ext E4)
  refine oq' C (a := r) (argsL := []) (W := 2) d19_20 (hq hw 115 rfl) (decl_of (hq hw 116 rfl) (hq hw 119 rfl)) (nfS (hq hw 118 rfl)) (hq hw 118 rfl) (hq hw 116 rfl) fx9 (by decide) pd____I (ct_gma l Z a0 hw am (r := r) (rt := rt) (kr := kr) fx9 fx10 fx11 fx12 fx13) rfl (Nat.le_of_eq rfl) rfl (by decide) mems0 ?_
  intro fv14 ph15 K16 fq17
  obtain ⟨rfl, rfl⟩ := fq17
  refine ⟨[], fresh0, ?_⟩
  show Go l _ Z _ _ _ κ _ _ 23 _ [(.ref rt), (.ref b1), (.ref b1)] 1 6
  refine ob' C 24 d19_23 rfl rfl (ol1' C (a := b1) (argsL := [(.ref rt), .int 1]) (W := 1) d19_24 rfl (hq hw 120 rfl) (hq hw 121 rfl) (hq hw 123 rfl) (by decide) pd___II_V (ct_bim1 l Z a0 hw am (a := b1) (t := rt) (kt := kr) (g := (1 : Int32)) (vs := [.int 1]) A5 fx7 fx8 fx13) rfl (Nat.le_of_eq rfl) rfl (by decide) (memsS (mi 0 rfl) mems0) ?_)
  intro fv18 ph19 K20 fq21
  obtain ⟨rfl, fx22, fx23, fx24⟩ := fq21
  refine ⟨[], fresh0, ?_⟩
  show Go l _ Z _ _ _ κ _ _ 27 _ [(.ref b1)] 1 6
  refine ob1' C (v := (.ref b1)) d19_27 rfl rfl rfl (by decide) (by decide) ?_
  have fx25 := (fx13.keep K20 (ninS (Nat.ne_of_lt (nltle (p4).lt (Nat.le_of_eq g3.symm))) nin0))
  exact ⟨b1, rfl, fx22, fx23, fx24, fx25, (Nat.le_of_eq g3.symm)⟩
theorem ct_babs (l : Launch) (Z : State) (a0 : Array Value) (hw : HW a0 Z) {one t1 zero t0 pos neg : Addr} {k1 k0 kp kn : ClassId} {pvs nvs : List Value} (am : Amb Z a0 one t1 zero t0 pos neg k1 k0 kp kn pvs nvs) {a : Addr} {h0 : Heap} (p0 : Fld Z h0 a "java/math/BigInteger" "signum" "I" (.int 1)) :
    Py l Z (⟨"java/math/BigInteger", "abs", "()Ljava/math/BigInteger;"⟩ : MethodName) 1 12 0 0 #[(.ref a)] h0 [] (fun rv h' => rv = some (.ref a) ∧ h' = h0) := by
  refine Ct.py (by0 := y13) (ml := 1) (rt := (some (.object "java/math/BigInteger"))) (rm := ({ frames := 0, cells := 0, slots := 0, locals := 0 } : Room)) ?_ (hq hw 236 rfl) (hq hw 8 rfl)
  refine Ct.mk (a0 := a0) (Ls := #[.val (.ref a)]) (plainFor_of_name pn_java_math_BigInteger) (fun m => by simp [entryFrame, mkF, argsToLocals, Value.category]) ?_
  intro κ C
  show Go l _ Z _ _ _ κ [] h0 0 #[.val (.ref a)] [] 0 0
  refine od' C 1 d42_0 rfl rfl rfl (og' C 4 d42_1 rfl (hq hw 34 rfl) Via.refl p0 (or' C 7 d42_4 rfl (by decide) (od' C 8 d42_7 rfl rfl rfl (os' C (pc' := 15) d42_8 (by decide) (by decide) ?_))))
  refine ob1' C (v := (.ref a)) d42_15 rfl rfl rfl (by decide) (by decide) ?_
  exact ⟨rfl, rfl⟩
theorem ct_g0 (l : Launch) (Z : State) (a0 : Array Value) (hw : HW a0 Z) {one t1 zero t0 pos neg : Addr} {k1 k0 kp kn : ClassId} {pvs nvs : List Value} (am : Amb Z a0 one t1 zero t0 pos neg k1 k0 kp kn pvs nvs) {a : Addr} {h0 : Heap} (p0 : Fld Z h0 a "java/math/BigInteger" "signum" "I" (.int 0)) :
    Py l Z (⟨"java/math/BigInteger", "gcd", "(Ljava/math/BigInteger;)Ljava/math/BigInteger;"⟩ : MethodName) 2 28 0 0 #[(.ref a), (.ref one)] h0 [] (fun rv h' => rv = some (.ref one) ∧ h' = h0) := by
  refine Ct.py (by0 := y11) (ml := 5) (rt := (some (.object "java/math/BigInteger"))) (rm := ({ frames := 1, cells := 0, slots := 0, locals := 12 } : Room)) ?_ (hq hw 40 rfl) (hq hw 8 rfl)
  refine Ct.mk (a0 := a0) (Ls := #[.val (.ref a), .val (.ref one), .unset, .unset, .unset]) (plainFor_of_name pn_java_math_BigInteger) (fun m => by simp [entryFrame, mkF, argsToLocals, Value.category]) ?_
  intro κ C
  show Go l _ Z _ _ _ κ [] h0 0 #[.val (.ref a), .val (.ref one), .unset, .unset, .unset] [] 0 0
  refine od' C 1 d8_0 rfl rfl rfl ?_
  refine og1' ?_
  intro O1 zO1
  refine og' C 4 d8_1 rfl (hq hw 34 rfl) Via.refl (Fld.ext O1 am.2.2.2.2.2.1) (on' C (pc' := 12) d8_4 (by decide) (by decide) (by decide) (od' C 13 d8_12 rfl rfl rfl (og' C 16 d8_13 rfl (hq hw 34 rfl) Via.refl p0 (or' C 19 d8_16 rfl (by decide) ?_))))
  refine od' C 20 d8_19 rfl rfl rfl (oq' C (a := one) (argsL := []) (W := 0) d8_20 (hq hw 232 rfl) (hq hw 233 rfl) (nfS (hq hw 235 rfl)) (hq hw 235 rfl) (hq hw 234 rfl) (Exa.ext O1 am.2.2.2.2.1) (by decide) pd___Ljava_math_BigInteger_ (ct_babs l Z a0 hw am (a := one) (Fld.ext O1 am.2.2.2.2.2.1)) rfl (Nat.le_of_eq rfl) rfl (by decide) mems0 ?_)
  intro fv2 ph3 K4 fq5
  obtain ⟨rfl, rfl⟩ := fq5
  refine ⟨[], fresh0, ?_⟩
  show Go l _ Z _ _ _ κ _ _ 23 _ [(.ref one)] 0 0
  refine ob1' C (v := (.ref one)) d8_23 rfl rfl rfl (by decide) (by decide) ?_
  exact ⟨rfl, rfl⟩
theorem ct_g1 (l : Launch) (Z : State) (a0 : Array Value) (hw : HW a0 Z) {one t1 zero t0 pos neg : Addr} {k1 k0 kp kn : ClassId} {pvs nvs : List Value} (am : Amb Z a0 one t1 zero t0 pos neg k1 k0 kp kn pvs nvs) {a t : Addr} {kt : ClassId} {x g : Int32} {h0 : Heap} (p0 : Exa Z h0 a "java/math/BigInteger") (p1 : Fld Z h0 a "java/math/BigInteger" "signum" "I" (.int g)) (p2 : Fld Z h0 a "java/math/BigInteger" "mag" "[I" (.ref t)) (p3 : Arv Z h0 t kt .int 1 [.int x] (.int 0)) (p4 : Exa Z h0 t "[I") (hg : ¬ (g = (0 : Int32))) (hx : ¬ (x = (0 : Int32))) :
    Py l Z (⟨"java/math/BigInteger", "gcd", "(Ljava/math/BigInteger;)Ljava/math/BigInteger;"⟩ : MethodName) 6 98 9 22 #[(.ref a), (.ref one)] h0 [] (fun rv h' => ∃ (o : Addr) (rt : Addr) (kr : ClassId), rv = some (.ref o) ∧ Exa Z h' o "java/math/BigInteger" ∧ Fld Z h' o "java/math/BigInteger" "signum" "I" (.int 1) ∧ Fld Z h' o "java/math/BigInteger" "mag" "[I" (.ref rt) ∧ Arv Z h' rt kr .int 1 [.int 1] (.int 0)) := by
  refine Ct.py (by0 := y11) (ml := 5) (rt := (some (.object "java/math/BigInteger"))) (rm := ({ frames := 5, cells := 9, slots := 22, locals := 82 } : Room)) ?_ (hq hw 40 rfl) (hq hw 8 rfl)
  refine Ct.mk (a0 := a0) (Ls := #[.val (.ref a), .val (.ref one), .unset, .unset, .unset]) (plainFor_of_name pn_java_math_BigInteger) (fun m => by simp [entryFrame, mkF, argsToLocals, Value.category]) ?_
  intro κ C
  show Go l _ Z _ _ _ κ [] h0 0 #[.val (.ref a), .val (.ref one), .unset, .unset, .unset] [] 0 0
  refine od' C 1 d8_0 rfl rfl rfl ?_
  refine og1' ?_
  intro O1 zO1
  refine og' C 4 d8_1 rfl (hq hw 34 rfl) Via.refl (Fld.ext O1 am.2.2.2.2.2.1) (on' C (pc' := 12) d8_4 (by decide) (by decide) (by decide) (od' C 13 d8_12 rfl rfl rfl (og' C 16 d8_13 rfl (hq hw 34 rfl) Via.refl p1 (on' C (pc' := 24) d8_16 (feq (hg : ¬ (g = (0 : Int32)))).2 (by decide) (by decide) ?_))))
  refine ok1' C 27 1 3 d8_24 rfl rfl rfl (hq hw 41 rfl) (hq hw 42 rfl) (hq hw 43 rfl) (by decide) (by decide) ?_
  intro b2 ph3 g4 E5 A6 D7
  have fx8 : Fld Z ph3 b2 "java/math/MutableBigInteger" "offset" "I" (.int 0) := D7 (Or.inl (hq hw 50 rfl)) (ty := .int) (by decide)
  have fx9 : Fld Z ph3 b2 "java/math/MutableBigInteger" "intLen" "I" (.int 0) := D7 (Or.inl (hq hw 54 rfl)) (ty := .int) (by decide)
  have fx10 : Fld Z ph3 b2 "java/math/MutableBigInteger" "value" "[I" .null := D7 (Or.inl (hq hw 69 rfl)) (ty := (.array .int)) (by decide)
  refine of1' C 28 d8_27 rfl rfl (od' C 29 d8_28 rfl rfl rfl ?_)
  have fx11 := (Exa.ext E5 p0)
  have fx12 := (Fld.ext E5 p1)
  have fx13 := (Fld.ext E5 p2)
  have fx14 := (p3.ext E5)
  have fx15 := (Exa.ext E5 p4)
  refine ol1' C (a := b2) (argsL := [(.ref a)]) (W := 1) d8_29 rfl (hq hw 44 rfl) (hq hw 45 rfl) (hq hw 47 rfl) (by decide) pd__Ljava_math_BigInteger__V (ct_mbi1 l Z a0 hw am (u := b2) (a := a) (t := t) (kt := kt) (x := x) (g := g) A6 fx8 fx9 fx10 fx11 fx12 fx13 fx14 fx15) rfl (Nat.le_of_eq rfl) rfl (by decide) (memsS (mi 0 rfl) mems0) ?_
  intro fv16 ph17 K18 fq19
  obtain ⟨b20, rfl, fx21, fx22, fx23, fx24, fx25, fx26⟩ := fq19
  refine ⟨[b20], (freshS ⟨fx26, (fx25).lt⟩ fresh0), ?_⟩
  show Go l _ Z _ _ _ κ [b20, b2] _ 32 _ [(.ref b2)] 2 4
  refine oj1' C 33 (Ls' := #[.val (.ref a), .val (.ref one), .val (.ref b2), .unset, .unset]) d8_32 rfl rfl rfl (ok1' C 36 3 7 d8_33 rfl rfl rfl (hq hw 41 rfl) (hq hw 42 rfl) (hq hw 43 rfl) (by decide) (by decide) ?_)
  intro b27 ph28 g29 E30 A31 D32
  have fx33 : Fld Z ph28 b27 "java/math/MutableBigInteger" "offset" "I" (.int 0) := D32 (Or.inl (hq hw 50 rfl)) (ty := .int) (by decide)
  have fx34 : Fld Z ph28 b27 "java/math/MutableBigInteger" "intLen" "I" (.int 0) := D32 (Or.inl (hq hw 54 rfl)) (ty := .int) (by decide)
  have fx35 : Fld Z ph28 b27 "java/math/MutableBigInteger" "value" "[I" .null := D32 (Or.inl (hq hw 69 rfl)) (ty := (.array .int)) (by decide)
  refine of1' C 37 d8_36 rfl rfl (od' C 38 d8_37 rfl rfl rfl ?_)
  refine og1' ?_
  intro O36 zO36
  refine ol1' C (a := b27) (argsL := [(.ref one)]) (W := 1) d8_38 rfl (hq hw 44 rfl) (hq hw 45 rfl) (hq hw 47 rfl) (by decide) pd__Ljava_math_BigInteger__V (ct_mbi1 l Z a0 hw am (u := b27) (a := one) (t := t1) (kt := k1) (x := (1 : Int32)) (g := (1 : Int32)) A31 fx33 fx34 fx35 (Exa.ext O36 am.2.2.2.2.1) (Fld.ext O36 am.2.2.2.2.2.1) (Fld.ext O36 am.2.2.2.2.2.2.1) (am.2.2.2.2.2.2.2.1.ext O36) (Exa.ext O36 am.2.2.2.2.2.2.2.2.1)) rfl (Nat.le_of_eq rfl) rfl (by decide) (memsS (mi 0 rfl) mems0) ?_
  intro fv37 ph38 K39 fq40
  obtain ⟨b41, rfl, fx42, fx43, fx44, fx45, fx46, fx47⟩ := fq40
  refine ⟨[b41], (freshS ⟨fx47, (fx46).lt⟩ fresh0), ?_⟩
  show Go l _ Z _ _ _ κ [b41, b27, b20, b2] _ 41 _ [(.ref b27)] 4 8
  refine oj1' C 42 (Ls' := #[.val (.ref a), .val (.ref one), .val (.ref b2), .val (.ref b27), .unset]) d8_41 rfl rfl rfl (od' C 43 d8_42 rfl rfl rfl (od' C 44 d8_43 rfl rfl rfl ?_))
  have fx48 := ((Exa.ext E30 fx21).keep K39)
  have fx49 := ((Fld.ext E30 fx22).keep K39 (ninS (Nat.ne_of_lt (nltle (nltle (A6).lt K18.1) (Nat.le_of_eq g29.symm))) nin0))
  have fx50 := ((Fld.ext E30 fx23).keep K39 (ninS (Nat.ne_of_lt (nltle (nltle (A6).lt K18.1) (Nat.le_of_eq g29.symm))) nin0))
  have fx51 := ((Fld.ext E30 fx24).keep K39 (ninS (Nat.ne_of_lt (nltle (nltle (A6).lt K18.1) (Nat.le_of_eq g29.symm))) nin0))
  have fx52 := ((fx25.ext E30).keep K39 (ninS (Nat.ne_of_lt (nltle (fx25).lt (Nat.le_of_eq g29.symm))) nin0))
  refine oq' C (a := b2) (argsL := [(.ref b27)]) (W := 0) d8_44 (hq hw 70 rfl) (hq hw 71 rfl) (nfS (hq hw 73 rfl)) (hq hw 73 rfl) (hq hw 72 rfl) fx48 (by decide) pd__Ljava_math_MutableBigInteger__Ljava_math_MutableBigInteger_ (ct_hg1 l Z a0 hw am (u := b2) (t := b20) (kt := kt) (x := x) (v := b27) (s := b41) (ks := k1) fx48 fx49 fx50 fx51 fx52 fx42 fx43 fx44 fx45 fx46 hx (Nat.ne_of_lt (nltle (nltle (A6).lt K18.1) (Nat.le_of_eq g29.symm))) (Nat.ne_of_lt (nltle (nltle (fx25).lt E30.1) fx47))) rfl (Nat.le_of_eq rfl) rfl (by decide) (memsS (mi 3 rfl) (memsS (mi 2 rfl) (memsS (mi 1 rfl) mems0))) ?_
  intro fv53 ph54 K55 fq56
  obtain ⟨r57, rt58, kr59, rfl, fx60, fx61, fx62, fx63, fx64, fx65, fx66⟩ := fq56
  refine ⟨[r57, rt58], (freshS ⟨fx65, (fx60).lt⟩ (freshS ⟨fx66, (fx64).lt⟩ fresh0)), ?_⟩
  show Go l _ Z _ _ _ κ [r57, rt58, b41, b27, b20, b2] _ 47 _ [(.ref r57)] 8 16
  refine oy' C 49 (Ls' := #[.val (.ref a), .val (.ref one), .val (.ref b2), .val (.ref b27), .val (.ref r57)]) d8_47 rfl rfl rfl (oc' C 51 d8_49 rfl rfl rfl (oe' C 52 (1 : Int32) d8_51 rfl (by decide) (oq' C (a := r57) (argsL := [.int 1]) (W := 0) d8_52 (hq hw 108 rfl) (hq hw 109 rfl) (nfS (hq hw 111 rfl)) (hq hw 111 rfl) (hq hw 110 rfl) fx60 (by decide) pd__I_Ljava_math_BigInteger_ (ct_tbi l Z a0 hw am (r := r57) (rt := rt58) (kr := kr59) fx60 fx61 fx62 fx63 fx64) rfl (Nat.le_of_eq rfl) rfl (by decide) mems0 ?_)))
  intro fv67 ph68 K69 fq70
  obtain ⟨a71, rfl, fx72, fx73, fx74, fx75, fx76⟩ := fq70
  refine ⟨[a71], (freshS ⟨fx76, (fx72).lt⟩ fresh0), ?_⟩
  show Go l _ Z _ _ _ κ [a71, r57, rt58, b41, b27, b20, b2] _ 55 _ [(.ref a71)] 9 22
  refine ob1' C (v := (.ref a71)) d8_55 rfl rfl rfl (by decide) (by decide) ?_
  exact ⟨a71, rt58, kr59, rfl, fx72, fx73, fx74, fx75⟩
theorem ct_g2 (l : Launch) (Z : State) (a0 : Array Value) (hw : HW a0 Z) {one t1 zero t0 pos neg : Addr} {k1 k0 kp kn : ClassId} {pvs nvs : List Value} (am : Amb Z a0 one t1 zero t0 pos neg k1 k0 kp kn pvs nvs) {a t : Addr} {kt : ClassId} {m0 m1 g : Int32} {h0 : Heap} (p0 : Exa Z h0 a "java/math/BigInteger") (p1 : Fld Z h0 a "java/math/BigInteger" "signum" "I" (.int g)) (p2 : Fld Z h0 a "java/math/BigInteger" "mag" "[I" (.ref t)) (p3 : Arv Z h0 t kt .int 2 [.int m0, .int m1] (.int 0)) (p4 : Exa Z h0 t "[I") (hg : ¬ (g = (0 : Int32))) (h0z : ¬ (m0 = (0 : Int32))) :
    Py l Z (⟨"java/math/BigInteger", "gcd", "(Ljava/math/BigInteger;)Ljava/math/BigInteger;"⟩ : MethodName) 6 98 9 23 #[(.ref a), (.ref one)] h0 [] (fun rv h' => ∃ (o : Addr) (rt : Addr) (kr : ClassId), rv = some (.ref o) ∧ Exa Z h' o "java/math/BigInteger" ∧ Fld Z h' o "java/math/BigInteger" "signum" "I" (.int 1) ∧ Fld Z h' o "java/math/BigInteger" "mag" "[I" (.ref rt) ∧ Arv Z h' rt kr .int 1 [.int 1] (.int 0)) := by
  refine Ct.py (by0 := y11) (ml := 5) (rt := (some (.object "java/math/BigInteger"))) (rm := ({ frames := 5, cells := 9, slots := 23, locals := 82 } : Room)) ?_ (hq hw 40 rfl) (hq hw 8 rfl)
  refine Ct.mk (a0 := a0) (Ls := #[.val (.ref a), .val (.ref one), .unset, .unset, .unset]) (plainFor_of_name pn_java_math_BigInteger) (fun m => by simp [entryFrame, mkF, argsToLocals, Value.category]) ?_
  intro κ C
  show Go l _ Z _ _ _ κ [] h0 0 #[.val (.ref a), .val (.ref one), .unset, .unset, .unset] [] 0 0
  refine od' C 1 d8_0 rfl rfl rfl ?_
  refine og1' ?_
  intro O1 zO1
  refine og' C 4 d8_1 rfl (hq hw 34 rfl) Via.refl (Fld.ext O1 am.2.2.2.2.2.1) (on' C (pc' := 12) d8_4 (by decide) (by decide) (by decide) (od' C 13 d8_12 rfl rfl rfl (og' C 16 d8_13 rfl (hq hw 34 rfl) Via.refl p1 (on' C (pc' := 24) d8_16 (feq (hg : ¬ (g = (0 : Int32)))).2 (by decide) (by decide) ?_))))
  refine ok1' C 27 1 3 d8_24 rfl rfl rfl (hq hw 41 rfl) (hq hw 42 rfl) (hq hw 43 rfl) (by decide) (by decide) ?_
  intro b2 ph3 g4 E5 A6 D7
  have fx8 : Fld Z ph3 b2 "java/math/MutableBigInteger" "offset" "I" (.int 0) := D7 (Or.inl (hq hw 50 rfl)) (ty := .int) (by decide)
  have fx9 : Fld Z ph3 b2 "java/math/MutableBigInteger" "intLen" "I" (.int 0) := D7 (Or.inl (hq hw 54 rfl)) (ty := .int) (by decide)
  have fx10 : Fld Z ph3 b2 "java/math/MutableBigInteger" "value" "[I" .null := D7 (Or.inl (hq hw 69 rfl)) (ty := (.array .int)) (by decide)
  refine of1' C 28 d8_27 rfl rfl (od' C 29 d8_28 rfl rfl rfl ?_)
  have fx11 := (Exa.ext E5 p0)
  have fx12 := (Fld.ext E5 p1)
  have fx13 := (Fld.ext E5 p2)
  have fx14 := (p3.ext E5)
  have fx15 := (Exa.ext E5 p4)
  refine ol1' C (a := b2) (argsL := [(.ref a)]) (W := 1) d8_29 rfl (hq hw 44 rfl) (hq hw 45 rfl) (hq hw 47 rfl) (by decide) pd__Ljava_math_BigInteger__V (ct_mbi2 l Z a0 hw am (u := b2) (a := a) (t := t) (kt := kt) (m0 := m0) (m1 := m1) (g := g) A6 fx8 fx9 fx10 fx11 fx12 fx13 fx14 fx15) rfl (Nat.le_of_eq rfl) rfl (by decide) (memsS (mi 0 rfl) mems0) ?_
  intro fv16 ph17 K18 fq19
  obtain ⟨b20, rfl, fx21, fx22, fx23, fx24, fx25, fx26⟩ := fq19
  refine ⟨[b20], (freshS ⟨fx26, (fx25).lt⟩ fresh0), ?_⟩
  show Go l _ Z _ _ _ κ [b20, b2] _ 32 _ [(.ref b2)] 2 5
  refine oj1' C 33 (Ls' := #[.val (.ref a), .val (.ref one), .val (.ref b2), .unset, .unset]) d8_32 rfl rfl rfl (ok1' C 36 3 8 d8_33 rfl rfl rfl (hq hw 41 rfl) (hq hw 42 rfl) (hq hw 43 rfl) (by decide) (by decide) ?_)
  intro b27 ph28 g29 E30 A31 D32
  have fx33 : Fld Z ph28 b27 "java/math/MutableBigInteger" "offset" "I" (.int 0) := D32 (Or.inl (hq hw 50 rfl)) (ty := .int) (by decide)
  have fx34 : Fld Z ph28 b27 "java/math/MutableBigInteger" "intLen" "I" (.int 0) := D32 (Or.inl (hq hw 54 rfl)) (ty := .int) (by decide)
  have fx35 : Fld Z ph28 b27 "java/math/MutableBigInteger" "value" "[I" .null := D32 (Or.inl (hq hw 69 rfl)) (ty := (.array .int)) (by decide)
  refine of1' C 37 d8_36 rfl rfl (od' C 38 d8_37 rfl rfl rfl ?_)
  refine og1' ?_
  intro O36 zO36
  refine ol1' C (a := b27) (argsL := [(.ref one)]) (W := 1) d8_38 rfl (hq hw 44 rfl) (hq hw 45 rfl) (hq hw 47 rfl) (by decide) pd__Ljava_math_BigInteger__V (ct_mbi1 l Z a0 hw am (u := b27) (a := one) (t := t1) (kt := k1) (x := (1 : Int32)) (g := (1 : Int32)) A31 fx33 fx34 fx35 (Exa.ext O36 am.2.2.2.2.1) (Fld.ext O36 am.2.2.2.2.2.1) (Fld.ext O36 am.2.2.2.2.2.2.1) (am.2.2.2.2.2.2.2.1.ext O36) (Exa.ext O36 am.2.2.2.2.2.2.2.2.1)) rfl (Nat.le_of_eq rfl) rfl (by decide) (memsS (mi 0 rfl) mems0) ?_
  intro fv37 ph38 K39 fq40
  obtain ⟨b41, rfl, fx42, fx43, fx44, fx45, fx46, fx47⟩ := fq40
  refine ⟨[b41], (freshS ⟨fx47, (fx46).lt⟩ fresh0), ?_⟩
  show Go l _ Z _ _ _ κ [b41, b27, b20, b2] _ 41 _ [(.ref b27)] 4 9
  refine oj1' C 42 (Ls' := #[.val (.ref a), .val (.ref one), .val (.ref b2), .val (.ref b27), .unset]) d8_41 rfl rfl rfl (od' C 43 d8_42 rfl rfl rfl (od' C 44 d8_43 rfl rfl rfl ?_))
  have fx48 := ((Exa.ext E30 fx21).keep K39)
  have fx49 := ((Fld.ext E30 fx22).keep K39 (ninS (Nat.ne_of_lt (nltle (nltle (A6).lt K18.1) (Nat.le_of_eq g29.symm))) nin0))
  have fx50 := ((Fld.ext E30 fx23).keep K39 (ninS (Nat.ne_of_lt (nltle (nltle (A6).lt K18.1) (Nat.le_of_eq g29.symm))) nin0))
  have fx51 := ((Fld.ext E30 fx24).keep K39 (ninS (Nat.ne_of_lt (nltle (nltle (A6).lt K18.1) (Nat.le_of_eq g29.symm))) nin0))
  have fx52 := ((fx25.ext E30).keep K39 (ninS (Nat.ne_of_lt (nltle (fx25).lt (Nat.le_of_eq g29.symm))) nin0))
  refine oq' C (a := b2) (argsL := [(.ref b27)]) (W := 0) d8_44 (hq hw 70 rfl) (hq hw 71 rfl) (nfS (hq hw 73 rfl)) (hq hw 73 rfl) (hq hw 72 rfl) fx48 (by decide) pd__Ljava_math_MutableBigInteger__Ljava_math_MutableBigInteger_ (ct_hg2 l Z a0 hw am (u := b2) (t := b20) (kt := kt) (m0 := m0) (m1 := m1) (v := b27) (s := b41) (ks := k1) fx48 fx49 fx50 fx51 fx52 fx42 fx43 fx44 fx45 fx46 h0z (Nat.ne_of_lt (nltle (nltle (A6).lt K18.1) (Nat.le_of_eq g29.symm))) (Nat.ne_of_lt (nltle (nltle (fx25).lt E30.1) fx47))) rfl (Nat.le_of_eq rfl) rfl (by decide) (memsS (mi 3 rfl) (memsS (mi 2 rfl) (memsS (mi 1 rfl) mems0))) ?_
  intro fv53 ph54 K55 fq56
  obtain ⟨r57, rt58, kr59, rfl, fx60, fx61, fx62, fx63, fx64, fx65, fx66⟩ := fq56
  refine ⟨[r57, rt58], (freshS ⟨fx65, (fx60).lt⟩ (freshS ⟨fx66, (fx64).lt⟩ fresh0)), ?_⟩
  show Go l _ Z _ _ _ κ [r57, rt58, b41, b27, b20, b2] _ 47 _ [(.ref r57)] 8 17
  refine oy' C 49 (Ls' := #[.val (.ref a), .val (.ref one), .val (.ref b2), .val (.ref b27), .val (.ref r57)]) d8_47 rfl rfl rfl (oc' C 51 d8_49 rfl rfl rfl (oe' C 52 (1 : Int32) d8_51 rfl (by decide) (oq' C (a := r57) (argsL := [.int 1]) (W := 0) d8_52 (hq hw 108 rfl) (hq hw 109 rfl) (nfS (hq hw 111 rfl)) (hq hw 111 rfl) (hq hw 110 rfl) fx60 (by decide) pd__I_Ljava_math_BigInteger_ (ct_tbi l Z a0 hw am (r := r57) (rt := rt58) (kr := kr59) fx60 fx61 fx62 fx63 fx64) rfl (Nat.le_of_eq rfl) rfl (by decide) mems0 ?_)))
  intro fv67 ph68 K69 fq70
  obtain ⟨a71, rfl, fx72, fx73, fx74, fx75, fx76⟩ := fq70
  refine ⟨[a71], (freshS ⟨fx76, (fx72).lt⟩ fresh0), ?_⟩
  show Go l _ Z _ _ _ κ [a71, r57, rt58, b41, b27, b20, b2] _ 55 _ [(.ref a71)] 9 23
  refine ob1' C (v := (.ref a71)) d8_55 rfl rfl rfl (by decide) (by decide) ?_
  exact ⟨a71, rt58, kr59, rfl, fx72, fx73, fx74, fx75⟩
theorem ct_beq0 (l : Launch) (Z : State) (a0 : Array Value) (hw : HW a0 Z) {one t1 zero t0 pos neg : Addr} {k1 k0 kp kn : ClassId} {pvs nvs : List Value} (am : Amb Z a0 one t1 zero t0 pos neg k1 k0 kp kn pvs nvs) {a b t u : Addr} {kt ku : ClassId} {g f : Int32} {h0 : Heap} (p0 : Exa Z h0 a "java/math/BigInteger") (p1 : Fld Z h0 a "java/math/BigInteger" "signum" "I" (.int g)) (p2 : Fld Z h0 a "java/math/BigInteger" "mag" "[I" (.ref t)) (p3 : Arv Z h0 t kt .int 0 [] (.int 0)) (p4 : Exa Z h0 b "java/math/BigInteger") (p5 : Fld Z h0 b "java/math/BigInteger" "signum" "I" (.int f)) (p6 : Fld Z h0 b "java/math/BigInteger" "mag" "[I" (.ref u)) (p7 : Arv Z h0 u ku .int 0 [] (.int 0)) (eg : f = g) :
    Py l Z (⟨"java/math/BigInteger", "equals", "(Ljava/lang/Object;)Z"⟩ : MethodName) 1 18 0 0 #[(.ref a), (.ref b)] h0 [] (fun rv h' => rv = some (.int 1) ∧ h' = h0) := by
  refine Ct.py (by0 := y4) (ml := 7) (rt := (some .boolean)) (rm := ({ frames := 0, cells := 0, slots := 0, locals := 0 } : Room)) ?_ (hq hw 137 rfl) (hq hw 8 rfl)
  refine Ct.mk (a0 := a0) (Ls := #[.val (.ref a), .val (.ref b), .unset, .unset, .unset, .unset, .unset]) (plainFor_of_name pn_java_math_BigInteger) (fun m => by simp [entryFrame, mkF, argsToLocals, Value.category]) ?_
  intro κ C
  show Go l _ Z _ _ _ κ [] h0 0 #[.val (.ref a), .val (.ref b), .unset, .unset, .unset, .unset, .unset] [] 0 0
  refine od' C 1 d23_0 rfl rfl rfl (od' C 2 d23_1 rfl rfl rfl ?_)
  by_cases ha1 : b = a
  · skip
    refine op1' C (b := true) (pc' := 5) d23_2 rfl rfl (decide_eq_true (congrArg Value.ref ha1)) (by decide) (by decide) (oe' C 6 (1 : Int32) d23_5 rfl (by decide) (om1' C (t := .boolean) (z := (1 : Int32)) d23_6 rfl (by decide) (by decide) (by decide) (by decide) ?_))
    exact ⟨rfl, rfl⟩
  · skip
    refine op1' C (b := false) (pc' := 7) d23_2 rfl rfl (decide_eq_false fun q => ha1 (Value.ref.inj q)) (by decide) (by decide) (od' C 8 d23_7 rfl rfl rfl (oz1' C 11 d23_8 rfl (hq hw 138 rfl) (Ins.self p4) (or' C 14 d23_11 rfl (by decide) (od' C 15 d23_14 rfl rfl rfl ?_))))
    refine os1' C 18 d23_15 rfl (hq hw 138 rfl) (Ins.self p4) (oj1' C 19 (Ls' := #[.val (.ref a), .val (.ref b), .val (.ref b), .unset, .unset, .unset, .unset]) d23_18 rfl rfl rfl (os' C (pc' := 24) d23_19 (by decide) (by decide) (od' C 25 d23_24 rfl rfl rfl (og' C 28 d23_25 rfl (hq hw 34 rfl) Via.refl p5 ?_))))
    refine od' C 29 d23_28 rfl rfl rfl (og' C 32 d23_29 rfl (hq hw 34 rfl) Via.refl p1 (oj' C (pc' := 37) d23_32 (teq (eg : f = g)).1 (by decide) (by decide) (od' C 38 d23_37 rfl rfl rfl (og' C 41 d23_38 rfl (hq hw 131 rfl) Via.refl p2 ?_))))
    refine oj1' C 42 (Ls' := #[.val (.ref a), .val (.ref b), .val (.ref b), .val (.ref t), .unset, .unset, .unset]) d23_41 rfl rfl rfl (od' C 43 d23_42 rfl rfl rfl (oe1' C 44 d23_43 rfl p3 (of' C 46 (Ls' := #[.val (.ref a), .val (.ref b), .val (.ref b), .val (.ref t), .val (.int 0), .unset, .unset]) d23_44 rfl rfl (od' C 47 d23_46 rfl rfl rfl ?_))))
    refine og' C 50 d23_47 rfl (hq hw 131 rfl) Via.refl p6 (oy' C 52 (Ls' := #[.val (.ref a), .val (.ref b), .val (.ref b), .val (.ref t), .val (.int 0), .val (.ref u), .unset]) d23_50 rfl rfl rfl (oa' C 54 d23_52 rfl rfl (oc' C 56 d23_54 rfl rfl rfl (oe1' C 57 d23_56 rfl p7 ?_))))
    refine oj' C (pc' := 62) d23_57 (by decide) (by decide) (by decide) (oe' C 63 (0 : Int32) d23_62 rfl (by decide) (of' C 65 (Ls' := #[.val (.ref a), .val (.ref b), .val (.ref b), .val (.ref t), .val (.int 0), .val (.ref u), .val (.int 0)]) d23_63 rfl rfl (oa' C 67 d23_65 rfl rfl (oa' C 69 d23_67 rfl rfl ?_))))
    refine oj' C (pc' := 92) d23_69 (by decide) (by decide) (by decide) (oe' C 93 (1 : Int32) d23_92 rfl (by decide) (om1' C (t := .boolean) (z := (1 : Int32)) d23_93 rfl (by decide) (by decide) (by decide) (by decide) ?_))
    exact ⟨rfl, rfl⟩
theorem ct_beq1 (l : Launch) (Z : State) (a0 : Array Value) (hw : HW a0 Z) {one t1 zero t0 pos neg : Addr} {k1 k0 kp kn : ClassId} {pvs nvs : List Value} (am : Amb Z a0 one t1 zero t0 pos neg k1 k0 kp kn pvs nvs) {a b t u : Addr} {kt ku : ClassId} {x0 y0 g f : Int32} {h0 : Heap} (p0 : Exa Z h0 a "java/math/BigInteger") (p1 : Fld Z h0 a "java/math/BigInteger" "signum" "I" (.int g)) (p2 : Fld Z h0 a "java/math/BigInteger" "mag" "[I" (.ref t)) (p3 : Arv Z h0 t kt .int 1 [.int x0] (.int 0)) (p4 : Exa Z h0 b "java/math/BigInteger") (p5 : Fld Z h0 b "java/math/BigInteger" "signum" "I" (.int f)) (p6 : Fld Z h0 b "java/math/BigInteger" "mag" "[I" (.ref u)) (p7 : Arv Z h0 u ku .int 1 [.int y0] (.int 0)) (eg : f = g) (e0 : y0 = x0) :
    Py l Z (⟨"java/math/BigInteger", "equals", "(Ljava/lang/Object;)Z"⟩ : MethodName) 1 18 0 0 #[(.ref a), (.ref b)] h0 [] (fun rv h' => rv = some (.int 1) ∧ h' = h0) := by
  refine Ct.py (by0 := y4) (ml := 7) (rt := (some .boolean)) (rm := ({ frames := 0, cells := 0, slots := 0, locals := 0 } : Room)) ?_ (hq hw 137 rfl) (hq hw 8 rfl)
  refine Ct.mk (a0 := a0) (Ls := #[.val (.ref a), .val (.ref b), .unset, .unset, .unset, .unset, .unset]) (plainFor_of_name pn_java_math_BigInteger) (fun m => by simp [entryFrame, mkF, argsToLocals, Value.category]) ?_
  intro κ C
  show Go l _ Z _ _ _ κ [] h0 0 #[.val (.ref a), .val (.ref b), .unset, .unset, .unset, .unset, .unset] [] 0 0
  refine od' C 1 d23_0 rfl rfl rfl (od' C 2 d23_1 rfl rfl rfl ?_)
  by_cases ha1 : b = a
  · skip
    refine op1' C (b := true) (pc' := 5) d23_2 rfl rfl (decide_eq_true (congrArg Value.ref ha1)) (by decide) (by decide) (oe' C 6 (1 : Int32) d23_5 rfl (by decide) (om1' C (t := .boolean) (z := (1 : Int32)) d23_6 rfl (by decide) (by decide) (by decide) (by decide) ?_))
    exact ⟨rfl, rfl⟩
  · skip
    refine op1' C (b := false) (pc' := 7) d23_2 rfl rfl (decide_eq_false fun q => ha1 (Value.ref.inj q)) (by decide) (by decide) (od' C 8 d23_7 rfl rfl rfl (oz1' C 11 d23_8 rfl (hq hw 138 rfl) (Ins.self p4) (or' C 14 d23_11 rfl (by decide) (od' C 15 d23_14 rfl rfl rfl ?_))))
    refine os1' C 18 d23_15 rfl (hq hw 138 rfl) (Ins.self p4) (oj1' C 19 (Ls' := #[.val (.ref a), .val (.ref b), .val (.ref b), .unset, .unset, .unset, .unset]) d23_18 rfl rfl rfl (os' C (pc' := 24) d23_19 (by decide) (by decide) (od' C 25 d23_24 rfl rfl rfl (og' C 28 d23_25 rfl (hq hw 34 rfl) Via.refl p5 ?_))))
    refine od' C 29 d23_28 rfl rfl rfl (og' C 32 d23_29 rfl (hq hw 34 rfl) Via.refl p1 (oj' C (pc' := 37) d23_32 (teq (eg : f = g)).1 (by decide) (by decide) (od' C 38 d23_37 rfl rfl rfl (og' C 41 d23_38 rfl (hq hw 131 rfl) Via.refl p2 ?_))))
    refine oj1' C 42 (Ls' := #[.val (.ref a), .val (.ref b), .val (.ref b), .val (.ref t), .unset, .unset, .unset]) d23_41 rfl rfl rfl (od' C 43 d23_42 rfl rfl rfl (oe1' C 44 d23_43 rfl p3 (of' C 46 (Ls' := #[.val (.ref a), .val (.ref b), .val (.ref b), .val (.ref t), .val (.int 1), .unset, .unset]) d23_44 rfl rfl (od' C 47 d23_46 rfl rfl rfl ?_))))
    refine og' C 50 d23_47 rfl (hq hw 131 rfl) Via.refl p6 (oy' C 52 (Ls' := #[.val (.ref a), .val (.ref b), .val (.ref b), .val (.ref t), .val (.int 1), .val (.ref u), .unset]) d23_50 rfl rfl rfl (oa' C 54 d23_52 rfl rfl (oc' C 56 d23_54 rfl rfl rfl (oe1' C 57 d23_56 rfl p7 ?_))))
    refine oj' C (pc' := 62) d23_57 (by decide) (by decide) (by decide) (oe' C 63 (0 : Int32) d23_62 rfl (by decide) (of' C 65 (Ls' := #[.val (.ref a), .val (.ref b), .val (.ref b), .val (.ref t), .val (.int 1), .val (.ref u), .val (.int 0)]) d23_63 rfl rfl (oa' C 67 d23_65 rfl rfl (oa' C 69 d23_67 rfl rfl ?_))))
    refine ol' C 72 d23_69 rfl (by decide) (oc' C 74 d23_72 rfl rfl rfl (oa' C 76 d23_74 rfl rfl (oa1' C 77 (v := (.int y0)) d23_76 rfl p7 (by decide) rfl (od' C 78 d23_77 rfl rfl rfl ?_))))
    refine oa' C 80 d23_78 rfl rfl (oa1' C 81 (v := (.int x0)) d23_80 rfl p3 (by decide) rfl (oj' C (pc' := 86) d23_81 (teq (e0 : y0 = x0)).1 (by decide) (by decide) (oo' C 89 (Ls' := #[.val (.ref a), .val (.ref b), .val (.ref b), .val (.ref t), .val (.int 1), .val (.ref u), .val (.int 1)]) (1 : Int32) d23_86 rfl (by decide) rfl rfl (os' C (pc' := 65) d23_89 (by decide) (by decide) ?_))))
    refine oa' C 67 d23_65 rfl rfl (oa' C 69 d23_67 rfl rfl (oj' C (pc' := 92) d23_69 (by decide) (by decide) (by decide) (oe' C 93 (1 : Int32) d23_92 rfl (by decide) (om1' C (t := .boolean) (z := (1 : Int32)) d23_93 rfl (by decide) (by decide) (by decide) (by decide) ?_))))
    exact ⟨rfl, rfl⟩
theorem ct_beq2 (l : Launch) (Z : State) (a0 : Array Value) (hw : HW a0 Z) {one t1 zero t0 pos neg : Addr} {k1 k0 kp kn : ClassId} {pvs nvs : List Value} (am : Amb Z a0 one t1 zero t0 pos neg k1 k0 kp kn pvs nvs) {a b t u : Addr} {kt ku : ClassId} {x0 x1 y0 y1 g f : Int32} {h0 : Heap} (p0 : Exa Z h0 a "java/math/BigInteger") (p1 : Fld Z h0 a "java/math/BigInteger" "signum" "I" (.int g)) (p2 : Fld Z h0 a "java/math/BigInteger" "mag" "[I" (.ref t)) (p3 : Arv Z h0 t kt .int 2 [.int x0, .int x1] (.int 0)) (p4 : Exa Z h0 b "java/math/BigInteger") (p5 : Fld Z h0 b "java/math/BigInteger" "signum" "I" (.int f)) (p6 : Fld Z h0 b "java/math/BigInteger" "mag" "[I" (.ref u)) (p7 : Arv Z h0 u ku .int 2 [.int y0, .int y1] (.int 0)) (eg : f = g) (e0 : y0 = x0) (e1 : y1 = x1) :
    Py l Z (⟨"java/math/BigInteger", "equals", "(Ljava/lang/Object;)Z"⟩ : MethodName) 1 18 0 0 #[(.ref a), (.ref b)] h0 [] (fun rv h' => rv = some (.int 1) ∧ h' = h0) := by
  refine Ct.py (by0 := y4) (ml := 7) (rt := (some .boolean)) (rm := ({ frames := 0, cells := 0, slots := 0, locals := 0 } : Room)) ?_ (hq hw 137 rfl) (hq hw 8 rfl)
  refine Ct.mk (a0 := a0) (Ls := #[.val (.ref a), .val (.ref b), .unset, .unset, .unset, .unset, .unset]) (plainFor_of_name pn_java_math_BigInteger) (fun m => by simp [entryFrame, mkF, argsToLocals, Value.category]) ?_
  intro κ C
  show Go l _ Z _ _ _ κ [] h0 0 #[.val (.ref a), .val (.ref b), .unset, .unset, .unset, .unset, .unset] [] 0 0
  refine od' C 1 d23_0 rfl rfl rfl (od' C 2 d23_1 rfl rfl rfl ?_)
  by_cases ha1 : b = a
  · skip
    refine op1' C (b := true) (pc' := 5) d23_2 rfl rfl (decide_eq_true (congrArg Value.ref ha1)) (by decide) (by decide) (oe' C 6 (1 : Int32) d23_5 rfl (by decide) (om1' C (t := .boolean) (z := (1 : Int32)) d23_6 rfl (by decide) (by decide) (by decide) (by decide) ?_))
    exact ⟨rfl, rfl⟩
  · skip
    refine op1' C (b := false) (pc' := 7) d23_2 rfl rfl (decide_eq_false fun q => ha1 (Value.ref.inj q)) (by decide) (by decide) (od' C 8 d23_7 rfl rfl rfl (oz1' C 11 d23_8 rfl (hq hw 138 rfl) (Ins.self p4) (or' C 14 d23_11 rfl (by decide) (od' C 15 d23_14 rfl rfl rfl ?_))))
    refine os1' C 18 d23_15 rfl (hq hw 138 rfl) (Ins.self p4) (oj1' C 19 (Ls' := #[.val (.ref a), .val (.ref b), .val (.ref b), .unset, .unset, .unset, .unset]) d23_18 rfl rfl rfl (os' C (pc' := 24) d23_19 (by decide) (by decide) (od' C 25 d23_24 rfl rfl rfl (og' C 28 d23_25 rfl (hq hw 34 rfl) Via.refl p5 ?_))))
    refine od' C 29 d23_28 rfl rfl rfl (og' C 32 d23_29 rfl (hq hw 34 rfl) Via.refl p1 (oj' C (pc' := 37) d23_32 (teq (eg : f = g)).1 (by decide) (by decide) (od' C 38 d23_37 rfl rfl rfl (og' C 41 d23_38 rfl (hq hw 131 rfl) Via.refl p2 ?_))))
    refine oj1' C 42 (Ls' := #[.val (.ref a), .val (.ref b), .val (.ref b), .val (.ref t), .unset, .unset, .unset]) d23_41 rfl rfl rfl (od' C 43 d23_42 rfl rfl rfl (oe1' C 44 d23_43 rfl p3 (of' C 46 (Ls' := #[.val (.ref a), .val (.ref b), .val (.ref b), .val (.ref t), .val (.int 2), .unset, .unset]) d23_44 rfl rfl (od' C 47 d23_46 rfl rfl rfl ?_))))
    refine og' C 50 d23_47 rfl (hq hw 131 rfl) Via.refl p6 (oy' C 52 (Ls' := #[.val (.ref a), .val (.ref b), .val (.ref b), .val (.ref t), .val (.int 2), .val (.ref u), .unset]) d23_50 rfl rfl rfl (oa' C 54 d23_52 rfl rfl (oc' C 56 d23_54 rfl rfl rfl (oe1' C 57 d23_56 rfl p7 ?_))))
    refine oj' C (pc' := 62) d23_57 (by decide) (by decide) (by decide) (oe' C 63 (0 : Int32) d23_62 rfl (by decide) (of' C 65 (Ls' := #[.val (.ref a), .val (.ref b), .val (.ref b), .val (.ref t), .val (.int 2), .val (.ref u), .val (.int 0)]) d23_63 rfl rfl (oa' C 67 d23_65 rfl rfl (oa' C 69 d23_67 rfl rfl ?_))))
    refine ol' C 72 d23_69 rfl (by decide) (oc' C 74 d23_72 rfl rfl rfl (oa' C 76 d23_74 rfl rfl (oa1' C 77 (v := (.int y0)) d23_76 rfl p7 (by decide) rfl (od' C 78 d23_77 rfl rfl rfl ?_))))
    refine oa' C 80 d23_78 rfl rfl (oa1' C 81 (v := (.int x0)) d23_80 rfl p3 (by decide) rfl (oj' C (pc' := 86) d23_81 (teq (e0 : y0 = x0)).1 (by decide) (by decide) (oo' C 89 (Ls' := #[.val (.ref a), .val (.ref b), .val (.ref b), .val (.ref t), .val (.int 2), .val (.ref u), .val (.int 1)]) (1 : Int32) d23_86 rfl (by decide) rfl rfl (os' C (pc' := 65) d23_89 (by decide) (by decide) ?_))))
    refine oa' C 67 d23_65 rfl rfl (oa' C 69 d23_67 rfl rfl (ol' C 72 d23_69 rfl (by decide) (oc' C 74 d23_72 rfl rfl rfl (oa' C 76 d23_74 rfl rfl ?_))))
    refine oa1' C 77 (v := (.int y1)) d23_76 rfl p7 (by decide) rfl (od' C 78 d23_77 rfl rfl rfl (oa' C 80 d23_78 rfl rfl (oa1' C 81 (v := (.int x1)) d23_80 rfl p3 (by decide) rfl (oj' C (pc' := 86) d23_81 (teq (e1 : y1 = x1)).1 (by decide) (by decide) ?_))))
    refine oo' C 89 (Ls' := #[.val (.ref a), .val (.ref b), .val (.ref b), .val (.ref t), .val (.int 2), .val (.ref u), .val (.int 2)]) (1 : Int32) d23_86 rfl (by decide) rfl rfl (os' C (pc' := 65) d23_89 (by decide) (by decide) (oa' C 67 d23_65 rfl rfl (oa' C 69 d23_67 rfl rfl (oj' C (pc' := 92) d23_69 (by decide) (by decide) (by decide) ?_))))
    refine oe' C 93 (1 : Int32) d23_92 rfl (by decide) (om1' C (t := .boolean) (z := (1 : Int32)) d23_93 rfl (by decide) (by decide) (by decide) (by decide) ?_)
    exact ⟨rfl, rfl⟩
theorem ct_bsg (l : Launch) (Z : State) (a0 : Array Value) (hw : HW a0 Z) {one t1 zero t0 pos neg : Addr} {k1 k0 kp kn : ClassId} {pvs nvs : List Value} (am : Amb Z a0 one t1 zero t0 pos neg k1 k0 kp kn pvs nvs) {a : Addr} {g : Int32} {h0 : Heap} (p0 : Fld Z h0 a "java/math/BigInteger" "signum" "I" (.int g)) :
    Py l Z (⟨"java/math/BigInteger", "signum", "()I"⟩ : MethodName) 1 12 0 0 #[(.ref a)] h0 [] (fun rv h' => rv = some (.int g) ∧ h' = h0) := by
  refine Ct.py (by0 := y14) (ml := 1) (rt := (some .int)) (rm := ({ frames := 0, cells := 0, slots := 0, locals := 0 } : Room)) ?_ (hq hw 33 rfl) (hq hw 8 rfl)
  refine Ct.mk (a0 := a0) (Ls := #[.val (.ref a)]) (plainFor_of_name pn_java_math_BigInteger) (fun m => by simp [entryFrame, mkF, argsToLocals, Value.category]) ?_
  intro κ C
  show Go l _ Z _ _ _ κ [] h0 0 #[.val (.ref a)] [] 0 0
  refine od' C 1 d7_0 rfl rfl rfl (og' C 4 d7_1 rfl (hq hw 34 rfl) Via.refl p0 (op' C d7_4 rfl (by decide) (by decide) ?_))
  exact ⟨rfl, rfl⟩
theorem ct_shl1 (l : Launch) (Z : State) (a0 : Array Value) (hw : HW a0 Z) {one t1 zero t0 pos neg : Addr} {k1 k0 kp kn : ClassId} {pvs nvs : List Value} (am : Amb Z a0 one t1 zero t0 pos neg k1 k0 kp kn pvs nvs) {t : Addr} {kt : ClassId} {x : Int32} {h0 : Heap} (p0 : Arv Z h0 t kt .int 1 [.int x] (.int 0)) :
    Py l Z (⟨"java/math/BigInteger", "shiftLeft", "([II)[I"⟩ : MethodName) 2 39 1 1 #[(.ref t), .int 0] h0 [] (fun rv h' => ∃ (b : Addr) (kb : ClassId), rv = some (.ref b) ∧ Arv Z h' b kb .int 1 [.int x] (.int 0) ∧ Exa Z h' b "[I" ∧ (h0.size ≤ b)) := by
  refine Ct.py (by0 := y1) (ml := 10) (rt := (some (.array .int))) (rm := ({ frames := 1, cells := 1, slots := 1, locals := 18 } : Room)) ?_ (hq hw 166 rfl) (hq hw 8 rfl)
  refine Ct.mk (a0 := a0) (Ls := #[.val (.ref t), .val (.int 0), .unset, .unset, .unset, .unset, .unset, .unset, .unset, .unset]) (plainFor_of_name pn_java_math_BigInteger) (fun m => by simp [entryFrame, mkF, argsToLocals, Value.category]) ?_
  intro κ C
  show Go l _ Z _ _ _ κ [] h0 0 #[.val (.ref t), .val (.int 0), .unset, .unset, .unset, .unset, .unset, .unset, .unset, .unset] [] 0 0
  refine ob' C 1 d29_0 rfl rfl (oe' C 2 (5 : Int32) d29_1 rfl (by decide) (ok' C 3 (0 : Int32) d29_2 rfl (by decide) (oh' C 4 (Ls' := #[.val (.ref t), .val (.int 0), .val (.int 0), .unset, .unset, .unset, .unset, .unset, .unset, .unset]) d29_3 rfl rfl (ob' C 5 d29_4 rfl rfl ?_))))
  refine om' C 7 (31 : Int32) d29_5 rfl (by decide) (od1' C 8 (0 : Int32) d29_7 rfl (by decide) (oh' C 9 (Ls' := #[.val (.ref t), .val (.int 0), .val (.int 0), .val (.int 0), .unset, .unset, .unset, .unset, .unset, .unset]) d29_8 rfl rfl (od' C 10 d29_9 rfl rfl rfl (oe1' C 11 d29_10 rfl p0 ?_))))
  refine of' C 13 (Ls' := #[.val (.ref t), .val (.int 0), .val (.int 0), .val (.int 0), .val (.int 1), .unset, .unset, .unset, .unset, .unset]) d29_11 rfl rfl (oh2' C 14 d29_13 rfl (oy' C 16 (Ls' := #[.val (.ref t), .val (.int 0), .val (.int 0), .val (.int 0), .val (.int 1), .val .null, .unset, .unset, .unset, .unset]) d29_14 rfl rfl rfl (ob' C 17 d29_16 rfl rfl (or' C 20 d29_17 rfl (by decide) ?_))))
  refine oa' C 22 d29_20 rfl rfl (ob' C 23 d29_22 rfl rfl (oz' C 24 (1 : Int32) d29_23 rfl (by decide) (oy1' C 26 1 1 (ty := .int) (cap := 1) d29_24 rfl rfl rfl rfl (hq hw 79 rfl) (by decide) (by decide) (by decide) (by decide) (by decide) ?_)))
  intro b1 ph2 k3 g4 E5 V6 X7
  have fx8 : Arv Z ph2 b1 k3 .int 1 [.int 0] (.int 0) := V6
  refine oy' C 28 (Ls' := #[.val (.ref t), .val (.int 0), .val (.int 0), .val (.int 0), .val (.int 1), .val (.ref b1), .unset, .unset, .unset, .unset]) d29_26 rfl rfl rfl (od' C 29 d29_28 rfl rfl rfl (oe' C 30 (0 : Int32) d29_29 rfl (by decide) (oc' C 32 d29_30 rfl rfl rfl (oe' C 33 (0 : Int32) d29_32 rfl (by decide) ?_))))
  refine oa' C 35 d29_33 rfl rfl ?_
  have fx9 := (p0.ext E5)
  refine oj2' C 38 (W := 0) (us := [.int x]) (vr := [.int x]) d29_35 rfl (hq hw 167 rfl) (hq hw 170 rfl) (hq hw 168 rfl) (hq hw 169 rfl) fx9 fx8 rfl (by decide) (by decide) (by decide) (by decide) (by decide) rfl (nble rfl) rfl rfl (by decide) (Nat.le_of_eq rfl) (by decide) (mi 0 rfl) ?_
  intro ph10 K11 fx12
  refine os' C (pc' := 152) d29_38 (by decide) (by decide) (oc' C 154 d29_152 rfl rfl rfl (ob1' C (v := (.ref b1)) d29_154 rfl rfl rfl (by decide) (by decide) ?_))
  have fx13 := (X7.keep K11)
  exact ⟨b1, k3, rfl, fx12, fx13, (Nat.le_of_eq g4.symm)⟩
theorem ct_mbyi1 (l : Launch) (Z : State) (a0 : Array Value) (hw : HW a0 Z) {one t1 zero t0 pos neg : Addr} {k1 k0 kp kn : ClassId} {pvs nvs : List Value} (am : Amb Z a0 one t1 zero t0 pos neg k1 k0 kp kn pvs nvs) {t : Addr} {kt : ClassId} {x g : Int32} {h0 : Heap} (p0 : Arv Z h0 t kt .int 1 [.int x] (.int 0)) :
    Py l Z (⟨"java/math/BigInteger", "multiplyByInt", "([III)Ljava/math/BigInteger;"⟩ : MethodName) 4 65 2 7 #[(.ref t), .int 1, .int g] h0 [] (fun rv h' => ∃ (a : Addr) (b : Addr) (kb : ClassId), rv = some (.ref a) ∧ Exa Z h' a "java/math/BigInteger" ∧ Fld Z h' a "java/math/BigInteger" "signum" "I" (.int g) ∧ Fld Z h' a "java/math/BigInteger" "mag" "[I" (.ref b) ∧ Arv Z h' b kb .int 1 [.int x] (.int 0) ∧ Exa Z h' b "[I" ∧ (h0.size ≤ a)) := by
  refine Ct.py (by0 := y10) (ml := 13) (rt := (some (.object "java/math/BigInteger"))) (rm := ({ frames := 3, cells := 2, slots := 7, locals := 41 } : Room)) ?_ (hq hw 156 rfl) (hq hw 8 rfl)
  refine Ct.mk (a0 := a0) (Ls := #[.val (.ref t), .val (.int 1), .val (.int g), .unset, .unset, .unset, .unset, .unset, .unset, .unset, .unset, .unset, .unset]) (plainFor_of_name pn_java_math_BigInteger) (fun m => by simp [entryFrame, mkF, argsToLocals, Value.category]) ?_
  intro κ C
  show Go l _ Z _ _ _ κ [] h0 0 #[.val (.ref t), .val (.int 1), .val (.int g), .unset, .unset, .unset, .unset, .unset, .unset, .unset, .unset, .unset, .unset] [] 0 0
  refine ob' C 1 d27_0 rfl rfl (oc1' C (argsL := [.int 1]) (W := 0) d27_1 (hq hw 157 rfl) (hq hw 158 rfl) (hq hw 96 rfl) (hq hw 159 rfl) (by decide) pd__I_I (ct_bc1 l Z a0 hw am) rfl (Nat.le_of_eq rfl) rfl (by decide) mems0 ?_)
  intro fv1 ph2 K3 fq4
  obtain ⟨rfl, rfl⟩ := fq4
  refine ⟨[], fresh0, ?_⟩
  show Go l _ Z _ _ _ κ _ _ 4 _ [.int 1] 0 0
  refine oe' C 5 (1 : Int32) d27_4 rfl (by decide) (ol' C 8 d27_5 rfl (by decide) (ok1' C 11 1 6 d27_8 rfl rfl rfl (hq hw 138 rfl) (hq hw 114 rfl) (hq hw 8 rfl) (by decide) (by decide) ?_))
  intro b5 ph6 g7 E8 A9 D10
  have fx11 : Fld Z ph6 b5 "java/math/BigInteger" "signum" "I" (.int 0) := D10 (Or.inr (hq hw 35 rfl)) (ty := .int) (by decide)
  have fx12 : Fld Z ph6 b5 "java/math/BigInteger" "mag" "[I" .null := D10 (Or.inr (hq hw 52 rfl)) (ty := (.array .int)) (by decide)
  refine of1' C 12 d27_11 rfl rfl (od' C 13 d27_12 rfl rfl rfl (ob' C 14 d27_13 rfl rfl (oc1' C (argsL := [.int 1]) (W := 3) d27_14 (hq hw 163 rfl) (hq hw 95 rfl) (hq hw 96 rfl) (hq hw 97 rfl) (by decide) pd__I_I (ct_ntz1 l Z a0 hw am) rfl (Nat.le_of_eq rfl) rfl (by decide) mems0 ?_)))
  intro fv13 ph14 K15 fq16
  obtain ⟨rfl, rfl⟩ := fq16
  refine ⟨[], fresh0, ?_⟩
  show Go l _ Z _ _ _ κ _ _ 17 _ [.int 0, (.ref t), (.ref b5), (.ref b5)] 1 6
  have fx17 := (p0.ext E8)
  refine oc1' C (argsL := [(.ref t), .int 0]) (W := 2) d27_17 (hq hw 164 rfl) (hq hw 165 rfl) (hq hw 8 rfl) (hq hw 166 rfl) (by decide) pd___II__I (ct_shl1 l Z a0 hw am (t := t) (kt := kt) (x := x) fx17) rfl (Nat.le_of_eq rfl) rfl (by decide) mems0 ?_
  intro fv18 ph19 K20 fq21
  obtain ⟨b22, kb23, rfl, fx24, fx25, fx26⟩ := fq21
  refine ⟨[b22], (freshS ⟨fx26, (fx24).lt⟩ fresh0), ?_⟩
  show Go l _ Z _ _ _ κ [b22, b5] _ 20 _ [(.ref b22), (.ref b5), (.ref b5)] 2 7
  refine ob' C 21 d27_20 rfl rfl ?_
  have fx27 := (A9.keep K20)
  have fx28 := (fx11.keep K20 nin0)
  have fx29 := (fx12.keep K20 nin0)
  refine ol1' C (a := b5) (argsL := [(.ref b22), .int g]) (W := 1) d27_21 rfl (hq hw 171 rfl) (hq hw 121 rfl) (hq hw 123 rfl) (by decide) pd___II_V (ct_bim1 l Z a0 hw am (a := b5) (t := b22) (kt := kb23) (g := g) (vs := [.int x]) fx27 fx28 fx29 fx24) rfl (Nat.le_of_eq rfl) rfl (by decide) (memsS (mi 1 rfl) mems0) ?_
  intro fv30 ph31 K32 fq33
  obtain ⟨rfl, fx34, fx35, fx36⟩ := fq33
  refine ⟨[], fresh0, ?_⟩
  show Go l _ Z _ _ _ κ _ _ 24 _ [(.ref b5)] 2 7
  refine ob1' C (v := (.ref b5)) d27_24 rfl rfl rfl (by decide) (by decide) ?_
  have fx37 := (fx24.keep K32 (ninS (Ne.symm (Nat.ne_of_lt (nltle (A9).lt fx26))) nin0))
  have fx38 := (fx25.keep K32)
  exact ⟨b5, b22, kb23, rfl, fx34, fx35, fx36, fx37, fx38, (Nat.le_of_eq g7.symm)⟩
theorem ct_mulI1 (l : Launch) (Z : State) (a0 : Array Value) (hw : HW a0 Z) {one t1 zero t0 pos neg : Addr} {k1 k0 kp kn : ClassId} {pvs nvs : List Value} (am : Amb Z a0 one t1 zero t0 pos neg k1 k0 kp kn pvs nvs) {a t : Addr} {kt : ClassId} {x g : Int32} {h0 : Heap} (p0 : Exa Z h0 a "java/math/BigInteger") (p1 : Fld Z h0 a "java/math/BigInteger" "signum" "I" (.int g)) (p2 : Fld Z h0 a "java/math/BigInteger" "mag" "[I" (.ref t)) (p3 : Arv Z h0 t kt .int 1 [.int x] (.int 0)) (p4 : Exa Z h0 t "[I") (hg : g = (1 : Int32) ∨ g = (-1 : Int32)) :
    Py l Z (⟨"java/math/BigInteger", "multiply", "(Ljava/math/BigInteger;ZZI)Ljava/math/BigInteger;"⟩ : MethodName) 5 85 2 7 #[(.ref a), (.ref one), .int 0, .int 0, .int 0] h0 [] (fun rv h' => ∃ (p : Addr) (b : Addr) (kb : ClassId), rv = some (.ref p) ∧ Exa Z h' p "java/math/BigInteger" ∧ Fld Z h' p "java/math/BigInteger" "signum" "I" (.int g) ∧ Fld Z h' p "java/math/BigInteger" "mag" "[I" (.ref b) ∧ Arv Z h' b kb .int 1 [.int x] (.int 0) ∧ Exa Z h' b "[I") := by
  rcases hg with rfl | rfl
  · refine Ct.py (by0 := y9) (ml := 9) (rt := (some (.object "java/math/BigInteger"))) (rm := ({ frames := 4, cells := 2, slots := 7, locals := 65 } : Room)) ?_ (hq hw 153 rfl) (hq hw 8 rfl)
    refine Ct.mk (a0 := a0) (Ls := #[.val (.ref a), .val (.ref one), .val (.int 0), .val (.int 0), .val (.int 0), .unset, .unset, .unset, .unset]) (plainFor_of_name pn_java_math_BigInteger) (fun m => by first | (simp [entryFrame, mkF, argsToLocals, Value.category]; done) | rfl) ?_
    intro κ C
    show Go l _ Z _ _ _ κ [] h0 0 #[.val (.ref a), .val (.ref one), .val (.int 0), .val (.int 0), .val (.int 0), .unset, .unset, .unset, .unset] [] 0 0
    refine od' C 1 d26_0 rfl rfl rfl ?_
    refine og1' ?_
    intro O1 zO1
    refine og' C 4 d26_1 rfl (hq hw 34 rfl) Via.refl (Fld.ext O1 am.2.2.2.2.2.1) (or' C 7 d26_4 rfl (by decide) (od' C 8 d26_7 rfl rfl rfl (og' C 11 d26_8 rfl (hq hw 34 rfl) Via.refl p1 (on' C (pc' := 18) d26_11 (by decide) (by decide) (by decide) ?_))))
    refine od' C 19 d26_18 rfl rfl rfl (og' C 22 d26_19 rfl (hq hw 131 rfl) Via.refl p2 (oe1' C 23 d26_22 rfl p3 (of' C 25 (Ls' := #[.val (.ref a), .val (.ref one), .val (.int 0), .val (.int 0), .val (.int 0), .val (.int 1), .unset, .unset, .unset]) d26_23 rfl rfl (od' C 26 d26_25 rfl rfl rfl ?_))))
    refine od' C 27 d26_26 rfl rfl rfl ?_
    by_cases ha2 : one = a
    · skip
      refine op1' C (b := true) (pc' := 30) d26_27 rfl rfl (decide_eq_true (congrArg Value.ref ha2)) (by decide) (by decide) (oa' C 32 d26_30 rfl rfl (om' C 34 (20 : Int32) d26_32 rfl (by decide) (oj' C (pc' := 46) d26_34 (by decide) (by decide) (by decide) (od' C 47 d26_46 rfl rfl rfl ?_))))
      refine og' C 50 d26_47 rfl (hq hw 131 rfl) Via.refl (Fld.ext O1 am.2.2.2.2.2.2.1) (oe1' C 51 d26_50 rfl (am.2.2.2.2.2.2.2.1.ext O1) (of' C 53 (Ls' := #[.val (.ref a), .val (.ref one), .val (.int 0), .val (.int 0), .val (.int 0), .val (.int 1), .val (.int 1), .unset, .unset]) d26_51 rfl rfl (oa' C 55 d26_53 rfl rfl (om' C 57 (80 : Int32) d26_55 rfl (by decide) ?_))))
      refine oj' C (pc' := 67) d26_57 (by decide) (by decide) (by decide) (od' C 68 d26_67 rfl rfl rfl (og' C 71 d26_68 rfl (hq hw 34 rfl) Via.refl p1 (od' C 72 d26_71 rfl rfl rfl (og' C 75 d26_72 rfl (hq hw 34 rfl) Via.refl (Fld.ext O1 am.2.2.2.2.2.1) ?_))))
      refine ol' C 78 d26_75 rfl (by decide) (oe' C 79 (1 : Int32) d26_78 rfl (by decide) (os' C (pc' := 83) d26_79 (by decide) (by decide) (of' C 85 (Ls' := #[.val (.ref a), .val (.ref one), .val (.int 0), .val (.int 0), .val (.int 0), .val (.int 1), .val (.int 1), .val (.int 1), .unset]) d26_83 rfl rfl (od' C 86 d26_85 rfl rfl rfl ?_))))
      refine og' C 89 d26_86 rfl (hq hw 131 rfl) Via.refl (Fld.ext O1 am.2.2.2.2.2.2.1) (oe1' C 90 d26_89 rfl (am.2.2.2.2.2.2.2.1.ext O1) (oe' C 91 (1 : Int32) d26_90 rfl (by decide) (ol' C 94 d26_91 rfl (by decide) (od' C 95 d26_94 rfl rfl rfl ?_))))
      refine og' C 98 d26_95 rfl (hq hw 131 rfl) Via.refl p2 (od' C 99 d26_98 rfl rfl rfl (og' C 102 d26_99 rfl (hq hw 131 rfl) Via.refl (Fld.ext O1 am.2.2.2.2.2.2.1) (oe' C 103 (0 : Int32) d26_102 rfl (by decide) (oa1' C 104 (v := (.int 1)) d26_103 rfl (am.2.2.2.2.2.2.2.1.ext O1) (by decide) rfl ?_))))
      refine oa' C 106 d26_104 rfl rfl (oc1' C (argsL := [(.ref t), .int 1, .int 1]) (W := 0) d26_106 (hq hw 154 rfl) (hq hw 155 rfl) (hq hw 8 rfl) (hq hw 156 rfl) (by decide) pd___III_Ljava_math_BigInteger_ (ct_mbyi1 l Z a0 hw am (t := t) (kt := kt) (x := x) (g := (1 : Int32)) p3) rfl (Nat.le_of_eq rfl) rfl (by decide) mems0 ?_)
      intro fv3 ph4 K5 fq6
      obtain ⟨a7, b8, kb9, rfl, fx10, fx11, fx12, fx13, fx14, fx15⟩ := fq6
      refine ⟨[a7], (freshS ⟨fx15, (fx10).lt⟩ fresh0), ?_⟩
      show Go l _ Z _ _ _ κ [a7] _ 109 _ [(.ref a7)] 2 7
      refine ob1' C (v := (.ref a7)) d26_109 rfl rfl rfl (by decide) (by decide) ?_
      exact ⟨a7, b8, kb9, rfl, fx10, fx11, fx12, fx13, fx14⟩
    · skip
      refine op1' C (b := false) (pc' := 46) d26_27 rfl rfl (decide_eq_false fun q => ha2 (Value.ref.inj q)) (by decide) (by decide) (od' C 47 d26_46 rfl rfl rfl (og' C 50 d26_47 rfl (hq hw 131 rfl) Via.refl (Fld.ext O1 am.2.2.2.2.2.2.1) (oe1' C 51 d26_50 rfl (am.2.2.2.2.2.2.2.1.ext O1) (of' C 53 (Ls' := #[.val (.ref a), .val (.ref one), .val (.int 0), .val (.int 0), .val (.int 0), .val (.int 1), .val (.int 1), .unset, .unset]) d26_51 rfl rfl ?_))))
      refine oa' C 55 d26_53 rfl rfl (om' C 57 (80 : Int32) d26_55 rfl (by decide) (oj' C (pc' := 67) d26_57 (by decide) (by decide) (by decide) (od' C 68 d26_67 rfl rfl rfl (og' C 71 d26_68 rfl (hq hw 34 rfl) Via.refl p1 ?_))))
      refine od' C 72 d26_71 rfl rfl rfl (og' C 75 d26_72 rfl (hq hw 34 rfl) Via.refl (Fld.ext O1 am.2.2.2.2.2.1) (ol' C 78 d26_75 rfl (by decide) (oe' C 79 (1 : Int32) d26_78 rfl (by decide) (os' C (pc' := 83) d26_79 (by decide) (by decide) ?_))))
      refine of' C 85 (Ls' := #[.val (.ref a), .val (.ref one), .val (.int 0), .val (.int 0), .val (.int 0), .val (.int 1), .val (.int 1), .val (.int 1), .unset]) d26_83 rfl rfl (od' C 86 d26_85 rfl rfl rfl (og' C 89 d26_86 rfl (hq hw 131 rfl) Via.refl (Fld.ext O1 am.2.2.2.2.2.2.1) (oe1' C 90 d26_89 rfl (am.2.2.2.2.2.2.2.1.ext O1) (oe' C 91 (1 : Int32) d26_90 rfl (by decide) ?_))))
      refine ol' C 94 d26_91 rfl (by decide) (od' C 95 d26_94 rfl rfl rfl (og' C 98 d26_95 rfl (hq hw 131 rfl) Via.refl p2 (od' C 99 d26_98 rfl rfl rfl (og' C 102 d26_99 rfl (hq hw 131 rfl) Via.refl (Fld.ext O1 am.2.2.2.2.2.2.1) ?_))))
      refine oe' C 103 (0 : Int32) d26_102 rfl (by decide) (oa1' C 104 (v := (.int 1)) d26_103 rfl (am.2.2.2.2.2.2.2.1.ext O1) (by decide) rfl (oa' C 106 d26_104 rfl rfl (oc1' C (argsL := [(.ref t), .int 1, .int 1]) (W := 0) d26_106 (hq hw 154 rfl) (hq hw 155 rfl) (hq hw 8 rfl) (hq hw 156 rfl) (by decide) pd___III_Ljava_math_BigInteger_ (ct_mbyi1 l Z a0 hw am (t := t) (kt := kt) (x := x) (g := (1 : Int32)) p3) rfl (Nat.le_of_eq rfl) rfl (by decide) mems0 ?_)))
      intro fv16 ph17 K18 fq19
      obtain ⟨a20, b21, kb22, rfl, fx23, fx24, fx25, fx26, fx27, fx28⟩ := fq19
      refine ⟨[a20], (freshS ⟨fx28, (fx23).lt⟩ fresh0), ?_⟩
      show Go l _ Z _ _ _ κ [a20] _ 109 _ [(.ref a20)] 2 7
      refine ob1' C (v := (.ref a20)) d26_109 rfl rfl rfl (by decide) (by decide) ?_
      exact ⟨a20, b21, kb22, rfl, fx23, fx24, fx25, fx26, fx27⟩
  · refine Ct.py (by0 := y9) (ml := 9) (rt := (some (.object "java/math/BigInteger"))) (rm := ({ frames := 4, cells := 2, slots := 7, locals := 65 } : Room)) ?_ (hq hw 153 rfl) (hq hw 8 rfl)
    refine Ct.mk (a0 := a0) (Ls := #[.val (.ref a), .val (.ref one), .val (.int 0), .val (.int 0), .val (.int 0), .unset, .unset, .unset, .unset]) (plainFor_of_name pn_java_math_BigInteger) (fun m => by first | (simp [entryFrame, mkF, argsToLocals, Value.category]; done) | rfl) ?_
    intro κ C
    show Go l _ Z _ _ _ κ [] h0 0 #[.val (.ref a), .val (.ref one), .val (.int 0), .val (.int 0), .val (.int 0), .unset, .unset, .unset, .unset] [] 0 0
    refine od' C 1 d26_0 rfl rfl rfl ?_
    refine og1' ?_
    intro O1 zO1
    refine og' C 4 d26_1 rfl (hq hw 34 rfl) Via.refl (Fld.ext O1 am.2.2.2.2.2.1) (or' C 7 d26_4 rfl (by decide) (od' C 8 d26_7 rfl rfl rfl (og' C 11 d26_8 rfl (hq hw 34 rfl) Via.refl p1 (on' C (pc' := 18) d26_11 (by decide) (by decide) (by decide) ?_))))
    refine od' C 19 d26_18 rfl rfl rfl (og' C 22 d26_19 rfl (hq hw 131 rfl) Via.refl p2 (oe1' C 23 d26_22 rfl p3 (of' C 25 (Ls' := #[.val (.ref a), .val (.ref one), .val (.int 0), .val (.int 0), .val (.int 0), .val (.int 1), .unset, .unset, .unset]) d26_23 rfl rfl (od' C 26 d26_25 rfl rfl rfl ?_))))
    refine od' C 27 d26_26 rfl rfl rfl ?_
    by_cases ha2 : one = a
    · skip
      refine op1' C (b := true) (pc' := 30) d26_27 rfl rfl (decide_eq_true (congrArg Value.ref ha2)) (by decide) (by decide) (oa' C 32 d26_30 rfl rfl (om' C 34 (20 : Int32) d26_32 rfl (by decide) (oj' C (pc' := 46) d26_34 (by decide) (by decide) (by decide) (od' C 47 d26_46 rfl rfl rfl ?_))))
      refine og' C 50 d26_47 rfl (hq hw 131 rfl) Via.refl (Fld.ext O1 am.2.2.2.2.2.2.1) (oe1' C 51 d26_50 rfl (am.2.2.2.2.2.2.2.1.ext O1) (of' C 53 (Ls' := #[.val (.ref a), .val (.ref one), .val (.int 0), .val (.int 0), .val (.int 0), .val (.int 1), .val (.int 1), .unset, .unset]) d26_51 rfl rfl (oa' C 55 d26_53 rfl rfl (om' C 57 (80 : Int32) d26_55 rfl (by decide) ?_))))
      refine oj' C (pc' := 67) d26_57 (by decide) (by decide) (by decide) (od' C 68 d26_67 rfl rfl rfl (og' C 71 d26_68 rfl (hq hw 34 rfl) Via.refl p1 (od' C 72 d26_71 rfl rfl rfl (og' C 75 d26_72 rfl (hq hw 34 rfl) Via.refl (Fld.ext O1 am.2.2.2.2.2.1) ?_))))
      refine oj' C (pc' := 82) d26_75 (by decide) (by decide) (by decide) (oe' C 83 (-1 : Int32) d26_82 rfl (by decide) (of' C 85 (Ls' := #[.val (.ref a), .val (.ref one), .val (.int 0), .val (.int 0), .val (.int 0), .val (.int 1), .val (.int 1), .val (.int (-1 : Int32)), .unset]) d26_83 rfl rfl (od' C 86 d26_85 rfl rfl rfl (og' C 89 d26_86 rfl (hq hw 131 rfl) Via.refl (Fld.ext O1 am.2.2.2.2.2.2.1) ?_))))
      refine oe1' C 90 d26_89 rfl (am.2.2.2.2.2.2.2.1.ext O1) (oe' C 91 (1 : Int32) d26_90 rfl (by decide) (ol' C 94 d26_91 rfl (by decide) (od' C 95 d26_94 rfl rfl rfl (og' C 98 d26_95 rfl (hq hw 131 rfl) Via.refl p2 ?_))))
      refine od' C 99 d26_98 rfl rfl rfl (og' C 102 d26_99 rfl (hq hw 131 rfl) Via.refl (Fld.ext O1 am.2.2.2.2.2.2.1) (oe' C 103 (0 : Int32) d26_102 rfl (by decide) (oa1' C 104 (v := (.int 1)) d26_103 rfl (am.2.2.2.2.2.2.2.1.ext O1) (by decide) rfl (oa' C 106 d26_104 rfl rfl ?_))))
      refine oc1' C (argsL := [(.ref t), .int 1, (.int (-1 : Int32))]) (W := 0) d26_106 (hq hw 154 rfl) (hq hw 155 rfl) (hq hw 8 rfl) (hq hw 156 rfl) (by decide) pd___III_Ljava_math_BigInteger_ (ct_mbyi1 l Z a0 hw am (t := t) (kt := kt) (x := x) (g := (-1 : Int32)) p3) rfl (Nat.le_of_eq rfl) rfl (by decide) mems0 ?_
      intro fv3 ph4 K5 fq6
      obtain ⟨a7, b8, kb9, rfl, fx10, fx11, fx12, fx13, fx14, fx15⟩ := fq6
      refine ⟨[a7], (freshS ⟨fx15, (fx10).lt⟩ fresh0), ?_⟩
      show Go l _ Z _ _ _ κ [a7] _ 109 _ [(.ref a7)] 2 7
      refine ob1' C (v := (.ref a7)) d26_109 rfl rfl rfl (by decide) (by decide) ?_
      exact ⟨a7, b8, kb9, rfl, fx10, fx11, fx12, fx13, fx14⟩
    · skip
      refine op1' C (b := false) (pc' := 46) d26_27 rfl rfl (decide_eq_false fun q => ha2 (Value.ref.inj q)) (by decide) (by decide) (od' C 47 d26_46 rfl rfl rfl (og' C 50 d26_47 rfl (hq hw 131 rfl) Via.refl (Fld.ext O1 am.2.2.2.2.2.2.1) (oe1' C 51 d26_50 rfl (am.2.2.2.2.2.2.2.1.ext O1) (of' C 53 (Ls' := #[.val (.ref a), .val (.ref one), .val (.int 0), .val (.int 0), .val (.int 0), .val (.int 1), .val (.int 1), .unset, .unset]) d26_51 rfl rfl ?_))))
      refine oa' C 55 d26_53 rfl rfl (om' C 57 (80 : Int32) d26_55 rfl (by decide) (oj' C (pc' := 67) d26_57 (by decide) (by decide) (by decide) (od' C 68 d26_67 rfl rfl rfl (og' C 71 d26_68 rfl (hq hw 34 rfl) Via.refl p1 ?_))))
      refine od' C 72 d26_71 rfl rfl rfl (og' C 75 d26_72 rfl (hq hw 34 rfl) Via.refl (Fld.ext O1 am.2.2.2.2.2.1) (oj' C (pc' := 82) d26_75 (by decide) (by decide) (by decide) (oe' C 83 (-1 : Int32) d26_82 rfl (by decide) (of' C 85 (Ls' := #[.val (.ref a), .val (.ref one), .val (.int 0), .val (.int 0), .val (.int 0), .val (.int 1), .val (.int 1), .val (.int (-1 : Int32)), .unset]) d26_83 rfl rfl ?_))))
      refine od' C 86 d26_85 rfl rfl rfl (og' C 89 d26_86 rfl (hq hw 131 rfl) Via.refl (Fld.ext O1 am.2.2.2.2.2.2.1) (oe1' C 90 d26_89 rfl (am.2.2.2.2.2.2.2.1.ext O1) (oe' C 91 (1 : Int32) d26_90 rfl (by decide) (ol' C 94 d26_91 rfl (by decide) ?_))))
      refine od' C 95 d26_94 rfl rfl rfl (og' C 98 d26_95 rfl (hq hw 131 rfl) Via.refl p2 (od' C 99 d26_98 rfl rfl rfl (og' C 102 d26_99 rfl (hq hw 131 rfl) Via.refl (Fld.ext O1 am.2.2.2.2.2.2.1) (oe' C 103 (0 : Int32) d26_102 rfl (by decide) ?_))))
      refine oa1' C 104 (v := (.int 1)) d26_103 rfl (am.2.2.2.2.2.2.2.1.ext O1) (by decide) rfl (oa' C 106 d26_104 rfl rfl (oc1' C (argsL := [(.ref t), .int 1, (.int (-1 : Int32))]) (W := 0) d26_106 (hq hw 154 rfl) (hq hw 155 rfl) (hq hw 8 rfl) (hq hw 156 rfl) (by decide) pd___III_Ljava_math_BigInteger_ (ct_mbyi1 l Z a0 hw am (t := t) (kt := kt) (x := x) (g := (-1 : Int32)) p3) rfl (Nat.le_of_eq rfl) rfl (by decide) mems0 ?_))
      intro fv16 ph17 K18 fq19
      obtain ⟨a20, b21, kb22, rfl, fx23, fx24, fx25, fx26, fx27, fx28⟩ := fq19
      refine ⟨[a20], (freshS ⟨fx28, (fx23).lt⟩ fresh0), ?_⟩
      show Go l _ Z _ _ _ κ [a20] _ 109 _ [(.ref a20)] 2 7
      refine ob1' C (v := (.ref a20)) d26_109 rfl rfl rfl (by decide) (by decide) ?_
      exact ⟨a20, b21, kb22, rfl, fx23, fx24, fx25, fx26, fx27⟩
theorem ct_mul1 (l : Launch) (Z : State) (a0 : Array Value) (hw : HW a0 Z) {one t1 zero t0 pos neg : Addr} {k1 k0 kp kn : ClassId} {pvs nvs : List Value} (am : Amb Z a0 one t1 zero t0 pos neg k1 k0 kp kn pvs nvs) {a t : Addr} {kt : ClassId} {x g : Int32} {h0 : Heap} (p0 : Exa Z h0 a "java/math/BigInteger") (p1 : Fld Z h0 a "java/math/BigInteger" "signum" "I" (.int g)) (p2 : Fld Z h0 a "java/math/BigInteger" "mag" "[I" (.ref t)) (p3 : Arv Z h0 t kt .int 1 [.int x] (.int 0)) (p4 : Exa Z h0 t "[I") (hg : g = (1 : Int32) ∨ g = (-1 : Int32)) :
    Py l Z (⟨"java/math/BigInteger", "multiply", "(Ljava/math/BigInteger;)Ljava/math/BigInteger;"⟩ : MethodName) 6 98 2 7 #[(.ref a), (.ref one)] h0 [] (fun rv h' => ∃ (p : Addr) (b : Addr) (kb : ClassId), rv = some (.ref p) ∧ Exa Z h' p "java/math/BigInteger" ∧ Fld Z h' p "java/math/BigInteger" "signum" "I" (.int g) ∧ Fld Z h' p "java/math/BigInteger" "mag" "[I" (.ref b) ∧ Arv Z h' b kb .int 1 [.int x] (.int 0) ∧ Exa Z h' b "[I") := by
  refine Ct.py (by0 := y8) (ml := 2) (rt := (some (.object "java/math/BigInteger"))) (rm := ({ frames := 5, cells := 2, slots := 7, locals := 85 } : Room)) ?_ (hq hw 148 rfl) (hq hw 8 rfl)
  refine Ct.mk (a0 := a0) (Ls := #[.val (.ref a), .val (.ref one)]) (plainFor_of_name pn_java_math_BigInteger) (fun m => by simp [entryFrame, mkF, argsToLocals, Value.category]) ?_
  intro κ C
  show Go l _ Z _ _ _ κ [] h0 0 #[.val (.ref a), .val (.ref one)] [] 0 0
  refine od' C 1 d25_0 rfl rfl rfl (od' C 2 d25_1 rfl rfl rfl (oe' C 3 (0 : Int32) d25_2 rfl (by decide) (oe' C 4 (0 : Int32) d25_3 rfl (by decide) (oe' C 5 (0 : Int32) d25_4 rfl (by decide) ?_))))
  refine oq' C (a := a) (argsL := [(.ref one), .int 0, .int 0, .int 0]) (W := 0) d25_5 (hq hw 149 rfl) (decl_of (hq hw 150 rfl) (hq hw 153 rfl)) (nfS (hq hw 152 rfl)) (hq hw 152 rfl) (hq hw 150 rfl) p0 (by decide) pd__Ljava_math_BigInteger_ZZI_Ljava_math_BigInteger_ (ct_mulI1 l Z a0 hw am (a := a) (t := t) (kt := kt) (x := x) (g := g) p0 p1 p2 p3 p4 hg) rfl (Nat.le_of_eq rfl) rfl (by decide) mems0 ?_
  intro fv1 ph2 K3 fq4
  obtain ⟨p5, b6, kb7, rfl, fx8, fx9, fx10, fx11, fx12⟩ := fq4
  refine ⟨[], fresh0, ?_⟩
  show Go l _ Z _ _ _ κ _ _ 8 _ [(.ref p5)] 2 7
  refine ob1' C (v := (.ref p5)) d25_8 rfl rfl rfl (by decide) (by decide) ?_
  exact ⟨p5, b6, kb7, rfl, fx8, fx9, fx10, fx11, fx12⟩
theorem ct_shl2 (l : Launch) (Z : State) (a0 : Array Value) (hw : HW a0 Z) {one t1 zero t0 pos neg : Addr} {k1 k0 kp kn : ClassId} {pvs nvs : List Value} (am : Amb Z a0 one t1 zero t0 pos neg k1 k0 kp kn pvs nvs) {t : Addr} {kt : ClassId} {m0 m1 : Int32} {h0 : Heap} (p0 : Arv Z h0 t kt .int 2 [.int m0, .int m1] (.int 0)) :
    Py l Z (⟨"java/math/BigInteger", "shiftLeft", "([II)[I"⟩ : MethodName) 2 39 1 2 #[(.ref t), .int 0] h0 [] (fun rv h' => ∃ (b : Addr) (kb : ClassId), rv = some (.ref b) ∧ Arv Z h' b kb .int 2 [.int m0, .int m1] (.int 0) ∧ Exa Z h' b "[I" ∧ (h0.size ≤ b)) := by
  refine Ct.py (by0 := y1) (ml := 10) (rt := (some (.array .int))) (rm := ({ frames := 1, cells := 1, slots := 2, locals := 18 } : Room)) ?_ (hq hw 166 rfl) (hq hw 8 rfl)
  refine Ct.mk (a0 := a0) (Ls := #[.val (.ref t), .val (.int 0), .unset, .unset, .unset, .unset, .unset, .unset, .unset, .unset]) (plainFor_of_name pn_java_math_BigInteger) (fun m => by simp [entryFrame, mkF, argsToLocals, Value.category]) ?_
  intro κ C
  show Go l _ Z _ _ _ κ [] h0 0 #[.val (.ref t), .val (.int 0), .unset, .unset, .unset, .unset, .unset, .unset, .unset, .unset] [] 0 0
  refine ob' C 1 d29_0 rfl rfl (oe' C 2 (5 : Int32) d29_1 rfl (by decide) (ok' C 3 (0 : Int32) d29_2 rfl (by decide) (oh' C 4 (Ls' := #[.val (.ref t), .val (.int 0), .val (.int 0), .unset, .unset, .unset, .unset, .unset, .unset, .unset]) d29_3 rfl rfl (ob' C 5 d29_4 rfl rfl ?_))))
  refine om' C 7 (31 : Int32) d29_5 rfl (by decide) (od1' C 8 (0 : Int32) d29_7 rfl (by decide) (oh' C 9 (Ls' := #[.val (.ref t), .val (.int 0), .val (.int 0), .val (.int 0), .unset, .unset, .unset, .unset, .unset, .unset]) d29_8 rfl rfl (od' C 10 d29_9 rfl rfl rfl (oe1' C 11 d29_10 rfl p0 ?_))))
  refine of' C 13 (Ls' := #[.val (.ref t), .val (.int 0), .val (.int 0), .val (.int 0), .val (.int 2), .unset, .unset, .unset, .unset, .unset]) d29_11 rfl rfl (oh2' C 14 d29_13 rfl (oy' C 16 (Ls' := #[.val (.ref t), .val (.int 0), .val (.int 0), .val (.int 0), .val (.int 2), .val .null, .unset, .unset, .unset, .unset]) d29_14 rfl rfl rfl (ob' C 17 d29_16 rfl rfl (or' C 20 d29_17 rfl (by decide) ?_))))
  refine oa' C 22 d29_20 rfl rfl (ob' C 23 d29_22 rfl rfl (oz' C 24 (2 : Int32) d29_23 rfl (by decide) (oy1' C 26 1 2 (ty := .int) (cap := 2) d29_24 rfl rfl rfl rfl (hq hw 79 rfl) (by decide) (by decide) (by decide) (by decide) (by decide) ?_)))
  intro b1 ph2 k3 g4 E5 V6 X7
  have fx8 : Arv Z ph2 b1 k3 .int 2 [.int 0, .int 0] (.int 0) := V6
  refine oy' C 28 (Ls' := #[.val (.ref t), .val (.int 0), .val (.int 0), .val (.int 0), .val (.int 2), .val (.ref b1), .unset, .unset, .unset, .unset]) d29_26 rfl rfl rfl (od' C 29 d29_28 rfl rfl rfl (oe' C 30 (0 : Int32) d29_29 rfl (by decide) (oc' C 32 d29_30 rfl rfl rfl (oe' C 33 (0 : Int32) d29_32 rfl (by decide) ?_))))
  refine oa' C 35 d29_33 rfl rfl ?_
  have fx9 := (p0.ext E5)
  refine oj2' C 38 (W := 0) (us := [.int m0, .int m1]) (vr := [.int m0, .int m1]) d29_35 rfl (hq hw 167 rfl) (hq hw 170 rfl) (hq hw 168 rfl) (hq hw 169 rfl) fx9 fx8 rfl (by decide) (by decide) (by decide) (by decide) (by decide) rfl (nble rfl) rfl rfl (by decide) (Nat.le_of_eq rfl) (by decide) (mi 0 rfl) ?_
  intro ph10 K11 fx12
  refine os' C (pc' := 152) d29_38 (by decide) (by decide) (oc' C 154 d29_152 rfl rfl rfl (ob1' C (v := (.ref b1)) d29_154 rfl rfl rfl (by decide) (by decide) ?_))
  have fx13 := (X7.keep K11)
  exact ⟨b1, k3, rfl, fx12, fx13, (Nat.le_of_eq g4.symm)⟩
theorem ct_mbyi2 (l : Launch) (Z : State) (a0 : Array Value) (hw : HW a0 Z) {one t1 zero t0 pos neg : Addr} {k1 k0 kp kn : ClassId} {pvs nvs : List Value} (am : Amb Z a0 one t1 zero t0 pos neg k1 k0 kp kn pvs nvs) {t : Addr} {kt : ClassId} {m0 m1 g : Int32} {h0 : Heap} (p0 : Arv Z h0 t kt .int 2 [.int m0, .int m1] (.int 0)) :
    Py l Z (⟨"java/math/BigInteger", "multiplyByInt", "([III)Ljava/math/BigInteger;"⟩ : MethodName) 4 65 2 8 #[(.ref t), .int 1, .int g] h0 [] (fun rv h' => ∃ (a : Addr) (b : Addr) (kb : ClassId), rv = some (.ref a) ∧ Exa Z h' a "java/math/BigInteger" ∧ Fld Z h' a "java/math/BigInteger" "signum" "I" (.int g) ∧ Fld Z h' a "java/math/BigInteger" "mag" "[I" (.ref b) ∧ Arv Z h' b kb .int 2 [.int m0, .int m1] (.int 0) ∧ Exa Z h' b "[I" ∧ (h0.size ≤ a)) := by
  refine Ct.py (by0 := y10) (ml := 13) (rt := (some (.object "java/math/BigInteger"))) (rm := ({ frames := 3, cells := 2, slots := 8, locals := 41 } : Room)) ?_ (hq hw 156 rfl) (hq hw 8 rfl)
  refine Ct.mk (a0 := a0) (Ls := #[.val (.ref t), .val (.int 1), .val (.int g), .unset, .unset, .unset, .unset, .unset, .unset, .unset, .unset, .unset, .unset]) (plainFor_of_name pn_java_math_BigInteger) (fun m => by simp [entryFrame, mkF, argsToLocals, Value.category]) ?_
  intro κ C
  show Go l _ Z _ _ _ κ [] h0 0 #[.val (.ref t), .val (.int 1), .val (.int g), .unset, .unset, .unset, .unset, .unset, .unset, .unset, .unset, .unset, .unset] [] 0 0
  refine ob' C 1 d27_0 rfl rfl (oc1' C (argsL := [.int 1]) (W := 0) d27_1 (hq hw 157 rfl) (hq hw 158 rfl) (hq hw 96 rfl) (hq hw 159 rfl) (by decide) pd__I_I (ct_bc1 l Z a0 hw am) rfl (Nat.le_of_eq rfl) rfl (by decide) mems0 ?_)
  intro fv1 ph2 K3 fq4
  obtain ⟨rfl, rfl⟩ := fq4
  refine ⟨[], fresh0, ?_⟩
  show Go l _ Z _ _ _ κ _ _ 4 _ [.int 1] 0 0
  refine oe' C 5 (1 : Int32) d27_4 rfl (by decide) (ol' C 8 d27_5 rfl (by decide) (ok1' C 11 1 6 d27_8 rfl rfl rfl (hq hw 138 rfl) (hq hw 114 rfl) (hq hw 8 rfl) (by decide) (by decide) ?_))
  intro b5 ph6 g7 E8 A9 D10
  have fx11 : Fld Z ph6 b5 "java/math/BigInteger" "signum" "I" (.int 0) := D10 (Or.inr (hq hw 35 rfl)) (ty := .int) (by decide)
  have fx12 : Fld Z ph6 b5 "java/math/BigInteger" "mag" "[I" .null := D10 (Or.inr (hq hw 52 rfl)) (ty := (.array .int)) (by decide)
  refine of1' C 12 d27_11 rfl rfl (od' C 13 d27_12 rfl rfl rfl (ob' C 14 d27_13 rfl rfl (oc1' C (argsL := [.int 1]) (W := 3) d27_14 (hq hw 163 rfl) (hq hw 95 rfl) (hq hw 96 rfl) (hq hw 97 rfl) (by decide) pd__I_I (ct_ntz1 l Z a0 hw am) rfl (Nat.le_of_eq rfl) rfl (by decide) mems0 ?_)))
  intro fv13 ph14 K15 fq16
  obtain ⟨rfl, rfl⟩ := fq16
  refine ⟨[], fresh0, ?_⟩
  show Go l _ Z _ _ _ κ _ _ 17 _ [.int 0, (.ref t), (.ref b5), (.ref b5)] 1 6
  have fx17 := (p0.ext E8)
  refine oc1' C (argsL := [(.ref t), .int 0]) (W := 2) d27_17 (hq hw 164 rfl) (hq hw 165 rfl) (hq hw 8 rfl) (hq hw 166 rfl) (by decide) pd___II__I (ct_shl2 l Z a0 hw am (t := t) (kt := kt) (m0 := m0) (m1 := m1) fx17) rfl (Nat.le_of_eq rfl) rfl (by decide) mems0 ?_
  intro fv18 ph19 K20 fq21
  obtain ⟨b22, kb23, rfl, fx24, fx25, fx26⟩ := fq21
  refine ⟨[b22], (freshS ⟨fx26, (fx24).lt⟩ fresh0), ?_⟩
  show Go l _ Z _ _ _ κ [b22, b5] _ 20 _ [(.ref b22), (.ref b5), (.ref b5)] 2 8
  refine ob' C 21 d27_20 rfl rfl ?_
  have fx27 := (A9.keep K20)
  have fx28 := (fx11.keep K20 nin0)
  have fx29 := (fx12.keep K20 nin0)
  refine ol1' C (a := b5) (argsL := [(.ref b22), .int g]) (W := 1) d27_21 rfl (hq hw 171 rfl) (hq hw 121 rfl) (hq hw 123 rfl) (by decide) pd___II_V (ct_bim2 l Z a0 hw am (a := b5) (t := b22) (kt := kb23) (g := g) (vs := [.int m0, .int m1]) fx27 fx28 fx29 fx24) rfl (Nat.le_of_eq rfl) rfl (by decide) (memsS (mi 1 rfl) mems0) ?_
  intro fv30 ph31 K32 fq33
  obtain ⟨rfl, fx34, fx35, fx36⟩ := fq33
  refine ⟨[], fresh0, ?_⟩
  show Go l _ Z _ _ _ κ _ _ 24 _ [(.ref b5)] 2 8
  refine ob1' C (v := (.ref b5)) d27_24 rfl rfl rfl (by decide) (by decide) ?_
  have fx37 := (fx24.keep K32 (ninS (Ne.symm (Nat.ne_of_lt (nltle (A9).lt fx26))) nin0))
  have fx38 := (fx25.keep K32)
  exact ⟨b5, b22, kb23, rfl, fx34, fx35, fx36, fx37, fx38, (Nat.le_of_eq g7.symm)⟩
theorem ct_mulI2 (l : Launch) (Z : State) (a0 : Array Value) (hw : HW a0 Z) {one t1 zero t0 pos neg : Addr} {k1 k0 kp kn : ClassId} {pvs nvs : List Value} (am : Amb Z a0 one t1 zero t0 pos neg k1 k0 kp kn pvs nvs) {a t : Addr} {kt : ClassId} {m0 m1 g : Int32} {h0 : Heap} (p0 : Exa Z h0 a "java/math/BigInteger") (p1 : Fld Z h0 a "java/math/BigInteger" "signum" "I" (.int g)) (p2 : Fld Z h0 a "java/math/BigInteger" "mag" "[I" (.ref t)) (p3 : Arv Z h0 t kt .int 2 [.int m0, .int m1] (.int 0)) (p4 : Exa Z h0 t "[I") (hg : g = (1 : Int32) ∨ g = (-1 : Int32)) :
    Py l Z (⟨"java/math/BigInteger", "multiply", "(Ljava/math/BigInteger;ZZI)Ljava/math/BigInteger;"⟩ : MethodName) 5 85 2 8 #[(.ref a), (.ref one), .int 0, .int 0, .int 0] h0 [] (fun rv h' => ∃ (p : Addr) (b : Addr) (kb : ClassId), rv = some (.ref p) ∧ Exa Z h' p "java/math/BigInteger" ∧ Fld Z h' p "java/math/BigInteger" "signum" "I" (.int g) ∧ Fld Z h' p "java/math/BigInteger" "mag" "[I" (.ref b) ∧ Arv Z h' b kb .int 2 [.int m0, .int m1] (.int 0) ∧ Exa Z h' b "[I") := by
  rcases hg with rfl | rfl
  · refine Ct.py (by0 := y9) (ml := 9) (rt := (some (.object "java/math/BigInteger"))) (rm := ({ frames := 4, cells := 2, slots := 8, locals := 65 } : Room)) ?_ (hq hw 153 rfl) (hq hw 8 rfl)
    refine Ct.mk (a0 := a0) (Ls := #[.val (.ref a), .val (.ref one), .val (.int 0), .val (.int 0), .val (.int 0), .unset, .unset, .unset, .unset]) (plainFor_of_name pn_java_math_BigInteger) (fun m => by first | (simp [entryFrame, mkF, argsToLocals, Value.category]; done) | rfl) ?_
    intro κ C
    show Go l _ Z _ _ _ κ [] h0 0 #[.val (.ref a), .val (.ref one), .val (.int 0), .val (.int 0), .val (.int 0), .unset, .unset, .unset, .unset] [] 0 0
    refine od' C 1 d26_0 rfl rfl rfl ?_
    refine og1' ?_
    intro O1 zO1
    refine og' C 4 d26_1 rfl (hq hw 34 rfl) Via.refl (Fld.ext O1 am.2.2.2.2.2.1) (or' C 7 d26_4 rfl (by decide) (od' C 8 d26_7 rfl rfl rfl (og' C 11 d26_8 rfl (hq hw 34 rfl) Via.refl p1 (on' C (pc' := 18) d26_11 (by decide) (by decide) (by decide) ?_))))
    refine od' C 19 d26_18 rfl rfl rfl (og' C 22 d26_19 rfl (hq hw 131 rfl) Via.refl p2 (oe1' C 23 d26_22 rfl p3 (of' C 25 (Ls' := #[.val (.ref a), .val (.ref one), .val (.int 0), .val (.int 0), .val (.int 0), .val (.int 2), .unset, .unset, .unset]) d26_23 rfl rfl (od' C 26 d26_25 rfl rfl rfl ?_))))
    refine od' C 27 d26_26 rfl rfl rfl ?_
    by_cases ha2 : one = a
    · skip
      refine op1' C (b := true) (pc' := 30) d26_27 rfl rfl (decide_eq_true (congrArg Value.ref ha2)) (by decide) (by decide) (oa' C 32 d26_30 rfl rfl (om' C 34 (20 : Int32) d26_32 rfl (by decide) (oj' C (pc' := 46) d26_34 (by decide) (by decide) (by decide) (od' C 47 d26_46 rfl rfl rfl ?_))))
      refine og' C 50 d26_47 rfl (hq hw 131 rfl) Via.refl (Fld.ext O1 am.2.2.2.2.2.2.1) (oe1' C 51 d26_50 rfl (am.2.2.2.2.2.2.2.1.ext O1) (of' C 53 (Ls' := #[.val (.ref a), .val (.ref one), .val (.int 0), .val (.int 0), .val (.int 0), .val (.int 2), .val (.int 1), .unset, .unset]) d26_51 rfl rfl (oa' C 55 d26_53 rfl rfl (om' C 57 (80 : Int32) d26_55 rfl (by decide) ?_))))
      refine oj' C (pc' := 67) d26_57 (by decide) (by decide) (by decide) (od' C 68 d26_67 rfl rfl rfl (og' C 71 d26_68 rfl (hq hw 34 rfl) Via.refl p1 (od' C 72 d26_71 rfl rfl rfl (og' C 75 d26_72 rfl (hq hw 34 rfl) Via.refl (Fld.ext O1 am.2.2.2.2.2.1) ?_))))
      refine ol' C 78 d26_75 rfl (by decide) (oe' C 79 (1 : Int32) d26_78 rfl (by decide) (os' C (pc' := 83) d26_79 (by decide) (by decide) (of' C 85 (Ls' := #[.val (.ref a), .val (.ref one), .val (.int 0), .val (.int 0), .val (.int 0), .val (.int 2), .val (.int 1), .val (.int 1), .unset]) d26_83 rfl rfl (od' C 86 d26_85 rfl rfl rfl ?_))))
      refine og' C 89 d26_86 rfl (hq hw 131 rfl) Via.refl (Fld.ext O1 am.2.2.2.2.2.2.1) (oe1' C 90 d26_89 rfl (am.2.2.2.2.2.2.2.1.ext O1) (oe' C 91 (1 : Int32) d26_90 rfl (by decide) (ol' C 94 d26_91 rfl (by decide) (od' C 95 d26_94 rfl rfl rfl ?_))))
      refine og' C 98 d26_95 rfl (hq hw 131 rfl) Via.refl p2 (od' C 99 d26_98 rfl rfl rfl (og' C 102 d26_99 rfl (hq hw 131 rfl) Via.refl (Fld.ext O1 am.2.2.2.2.2.2.1) (oe' C 103 (0 : Int32) d26_102 rfl (by decide) (oa1' C 104 (v := (.int 1)) d26_103 rfl (am.2.2.2.2.2.2.2.1.ext O1) (by decide) rfl ?_))))
      refine oa' C 106 d26_104 rfl rfl (oc1' C (argsL := [(.ref t), .int 1, .int 1]) (W := 0) d26_106 (hq hw 154 rfl) (hq hw 155 rfl) (hq hw 8 rfl) (hq hw 156 rfl) (by decide) pd___III_Ljava_math_BigInteger_ (ct_mbyi2 l Z a0 hw am (t := t) (kt := kt) (m0 := m0) (m1 := m1) (g := (1 : Int32)) p3) rfl (Nat.le_of_eq rfl) rfl (by decide) mems0 ?_)
      intro fv3 ph4 K5 fq6
      obtain ⟨a7, b8, kb9, rfl, fx10, fx11, fx12, fx13, fx14, fx15⟩ := fq6
      refine ⟨[a7], (freshS ⟨fx15, (fx10).lt⟩ fresh0), ?_⟩
      show Go l _ Z _ _ _ κ [a7] _ 109 _ [(.ref a7)] 2 8
      refine ob1' C (v := (.ref a7)) d26_109 rfl rfl rfl (by decide) (by decide) ?_
      exact ⟨a7, b8, kb9, rfl, fx10, fx11, fx12, fx13, fx14⟩
    · skip
      refine op1' C (b := false) (pc' := 46) d26_27 rfl rfl (decide_eq_false fun q => ha2 (Value.ref.inj q)) (by decide) (by decide) (od' C 47 d26_46 rfl rfl rfl (og' C 50 d26_47 rfl (hq hw 131 rfl) Via.refl (Fld.ext O1 am.2.2.2.2.2.2.1) (oe1' C 51 d26_50 rfl (am.2.2.2.2.2.2.2.1.ext O1) (of' C 53 (Ls' := #[.val (.ref a), .val (.ref one), .val (.int 0), .val (.int 0), .val (.int 0), .val (.int 2), .val (.int 1), .unset, .unset]) d26_51 rfl rfl ?_))))
      refine oa' C 55 d26_53 rfl rfl (om' C 57 (80 : Int32) d26_55 rfl (by decide) (oj' C (pc' := 67) d26_57 (by decide) (by decide) (by decide) (od' C 68 d26_67 rfl rfl rfl (og' C 71 d26_68 rfl (hq hw 34 rfl) Via.refl p1 ?_))))
      refine od' C 72 d26_71 rfl rfl rfl (og' C 75 d26_72 rfl (hq hw 34 rfl) Via.refl (Fld.ext O1 am.2.2.2.2.2.1) (ol' C 78 d26_75 rfl (by decide) (oe' C 79 (1 : Int32) d26_78 rfl (by decide) (os' C (pc' := 83) d26_79 (by decide) (by decide) ?_))))
      refine of' C 85 (Ls' := #[.val (.ref a), .val (.ref one), .val (.int 0), .val (.int 0), .val (.int 0), .val (.int 2), .val (.int 1), .val (.int 1), .unset]) d26_83 rfl rfl (od' C 86 d26_85 rfl rfl rfl (og' C 89 d26_86 rfl (hq hw 131 rfl) Via.refl (Fld.ext O1 am.2.2.2.2.2.2.1) (oe1' C 90 d26_89 rfl (am.2.2.2.2.2.2.2.1.ext O1) (oe' C 91 (1 : Int32) d26_90 rfl (by decide) ?_))))
      refine ol' C 94 d26_91 rfl (by decide) (od' C 95 d26_94 rfl rfl rfl (og' C 98 d26_95 rfl (hq hw 131 rfl) Via.refl p2 (od' C 99 d26_98 rfl rfl rfl (og' C 102 d26_99 rfl (hq hw 131 rfl) Via.refl (Fld.ext O1 am.2.2.2.2.2.2.1) ?_))))
      refine oe' C 103 (0 : Int32) d26_102 rfl (by decide) (oa1' C 104 (v := (.int 1)) d26_103 rfl (am.2.2.2.2.2.2.2.1.ext O1) (by decide) rfl (oa' C 106 d26_104 rfl rfl (oc1' C (argsL := [(.ref t), .int 1, .int 1]) (W := 0) d26_106 (hq hw 154 rfl) (hq hw 155 rfl) (hq hw 8 rfl) (hq hw 156 rfl) (by decide) pd___III_Ljava_math_BigInteger_ (ct_mbyi2 l Z a0 hw am (t := t) (kt := kt) (m0 := m0) (m1 := m1) (g := (1 : Int32)) p3) rfl (Nat.le_of_eq rfl) rfl (by decide) mems0 ?_)))
      intro fv16 ph17 K18 fq19
      obtain ⟨a20, b21, kb22, rfl, fx23, fx24, fx25, fx26, fx27, fx28⟩ := fq19
      refine ⟨[a20], (freshS ⟨fx28, (fx23).lt⟩ fresh0), ?_⟩
      show Go l _ Z _ _ _ κ [a20] _ 109 _ [(.ref a20)] 2 8
      refine ob1' C (v := (.ref a20)) d26_109 rfl rfl rfl (by decide) (by decide) ?_
      exact ⟨a20, b21, kb22, rfl, fx23, fx24, fx25, fx26, fx27⟩
  · refine Ct.py (by0 := y9) (ml := 9) (rt := (some (.object "java/math/BigInteger"))) (rm := ({ frames := 4, cells := 2, slots := 8, locals := 65 } : Room)) ?_ (hq hw 153 rfl) (hq hw 8 rfl)
    refine Ct.mk (a0 := a0) (Ls := #[.val (.ref a), .val (.ref one), .val (.int 0), .val (.int 0), .val (.int 0), .unset, .unset, .unset, .unset]) (plainFor_of_name pn_java_math_BigInteger) (fun m => by first | (simp [entryFrame, mkF, argsToLocals, Value.category]; done) | rfl) ?_
    intro κ C
    show Go l _ Z _ _ _ κ [] h0 0 #[.val (.ref a), .val (.ref one), .val (.int 0), .val (.int 0), .val (.int 0), .unset, .unset, .unset, .unset] [] 0 0
    refine od' C 1 d26_0 rfl rfl rfl ?_
    refine og1' ?_
    intro O1 zO1
    refine og' C 4 d26_1 rfl (hq hw 34 rfl) Via.refl (Fld.ext O1 am.2.2.2.2.2.1) (or' C 7 d26_4 rfl (by decide) (od' C 8 d26_7 rfl rfl rfl (og' C 11 d26_8 rfl (hq hw 34 rfl) Via.refl p1 (on' C (pc' := 18) d26_11 (by decide) (by decide) (by decide) ?_))))
    refine od' C 19 d26_18 rfl rfl rfl (og' C 22 d26_19 rfl (hq hw 131 rfl) Via.refl p2 (oe1' C 23 d26_22 rfl p3 (of' C 25 (Ls' := #[.val (.ref a), .val (.ref one), .val (.int 0), .val (.int 0), .val (.int 0), .val (.int 2), .unset, .unset, .unset]) d26_23 rfl rfl (od' C 26 d26_25 rfl rfl rfl ?_))))
    refine od' C 27 d26_26 rfl rfl rfl ?_
    by_cases ha2 : one = a
    · skip
      refine op1' C (b := true) (pc' := 30) d26_27 rfl rfl (decide_eq_true (congrArg Value.ref ha2)) (by decide) (by decide) (oa' C 32 d26_30 rfl rfl (om' C 34 (20 : Int32) d26_32 rfl (by decide) (oj' C (pc' := 46) d26_34 (by decide) (by decide) (by decide) (od' C 47 d26_46 rfl rfl rfl ?_))))
      refine og' C 50 d26_47 rfl (hq hw 131 rfl) Via.refl (Fld.ext O1 am.2.2.2.2.2.2.1) (oe1' C 51 d26_50 rfl (am.2.2.2.2.2.2.2.1.ext O1) (of' C 53 (Ls' := #[.val (.ref a), .val (.ref one), .val (.int 0), .val (.int 0), .val (.int 0), .val (.int 2), .val (.int 1), .unset, .unset]) d26_51 rfl rfl (oa' C 55 d26_53 rfl rfl (om' C 57 (80 : Int32) d26_55 rfl (by decide) ?_))))
      refine oj' C (pc' := 67) d26_57 (by decide) (by decide) (by decide) (od' C 68 d26_67 rfl rfl rfl (og' C 71 d26_68 rfl (hq hw 34 rfl) Via.refl p1 (od' C 72 d26_71 rfl rfl rfl (og' C 75 d26_72 rfl (hq hw 34 rfl) Via.refl (Fld.ext O1 am.2.2.2.2.2.1) ?_))))
      refine oj' C (pc' := 82) d26_75 (by decide) (by decide) (by decide) (oe' C 83 (-1 : Int32) d26_82 rfl (by decide) (of' C 85 (Ls' := #[.val (.ref a), .val (.ref one), .val (.int 0), .val (.int 0), .val (.int 0), .val (.int 2), .val (.int 1), .val (.int (-1 : Int32)), .unset]) d26_83 rfl rfl (od' C 86 d26_85 rfl rfl rfl (og' C 89 d26_86 rfl (hq hw 131 rfl) Via.refl (Fld.ext O1 am.2.2.2.2.2.2.1) ?_))))
      refine oe1' C 90 d26_89 rfl (am.2.2.2.2.2.2.2.1.ext O1) (oe' C 91 (1 : Int32) d26_90 rfl (by decide) (ol' C 94 d26_91 rfl (by decide) (od' C 95 d26_94 rfl rfl rfl (og' C 98 d26_95 rfl (hq hw 131 rfl) Via.refl p2 ?_))))
      refine od' C 99 d26_98 rfl rfl rfl (og' C 102 d26_99 rfl (hq hw 131 rfl) Via.refl (Fld.ext O1 am.2.2.2.2.2.2.1) (oe' C 103 (0 : Int32) d26_102 rfl (by decide) (oa1' C 104 (v := (.int 1)) d26_103 rfl (am.2.2.2.2.2.2.2.1.ext O1) (by decide) rfl (oa' C 106 d26_104 rfl rfl ?_))))
      refine oc1' C (argsL := [(.ref t), .int 1, (.int (-1 : Int32))]) (W := 0) d26_106 (hq hw 154 rfl) (hq hw 155 rfl) (hq hw 8 rfl) (hq hw 156 rfl) (by decide) pd___III_Ljava_math_BigInteger_ (ct_mbyi2 l Z a0 hw am (t := t) (kt := kt) (m0 := m0) (m1 := m1) (g := (-1 : Int32)) p3) rfl (Nat.le_of_eq rfl) rfl (by decide) mems0 ?_
      intro fv3 ph4 K5 fq6
      obtain ⟨a7, b8, kb9, rfl, fx10, fx11, fx12, fx13, fx14, fx15⟩ := fq6
      refine ⟨[a7], (freshS ⟨fx15, (fx10).lt⟩ fresh0), ?_⟩
      show Go l _ Z _ _ _ κ [a7] _ 109 _ [(.ref a7)] 2 8
      refine ob1' C (v := (.ref a7)) d26_109 rfl rfl rfl (by decide) (by decide) ?_
      exact ⟨a7, b8, kb9, rfl, fx10, fx11, fx12, fx13, fx14⟩
    · skip
      refine op1' C (b := false) (pc' := 46) d26_27 rfl rfl (decide_eq_false fun q => ha2 (Value.ref.inj q)) (by decide) (by decide) (od' C 47 d26_46 rfl rfl rfl (og' C 50 d26_47 rfl (hq hw 131 rfl) Via.refl (Fld.ext O1 am.2.2.2.2.2.2.1) (oe1' C 51 d26_50 rfl (am.2.2.2.2.2.2.2.1.ext O1) (of' C 53 (Ls' := #[.val (.ref a), .val (.ref one), .val (.int 0), .val (.int 0), .val (.int 0), .val (.int 2), .val (.int 1), .unset, .unset]) d26_51 rfl rfl ?_))))
      refine oa' C 55 d26_53 rfl rfl (om' C 57 (80 : Int32) d26_55 rfl (by decide) (oj' C (pc' := 67) d26_57 (by decide) (by decide) (by decide) (od' C 68 d26_67 rfl rfl rfl (og' C 71 d26_68 rfl (hq hw 34 rfl) Via.refl p1 ?_))))
      refine od' C 72 d26_71 rfl rfl rfl (og' C 75 d26_72 rfl (hq hw 34 rfl) Via.refl (Fld.ext O1 am.2.2.2.2.2.1) (oj' C (pc' := 82) d26_75 (by decide) (by decide) (by decide) (oe' C 83 (-1 : Int32) d26_82 rfl (by decide) (of' C 85 (Ls' := #[.val (.ref a), .val (.ref one), .val (.int 0), .val (.int 0), .val (.int 0), .val (.int 2), .val (.int 1), .val (.int (-1 : Int32)), .unset]) d26_83 rfl rfl ?_))))
      refine od' C 86 d26_85 rfl rfl rfl (og' C 89 d26_86 rfl (hq hw 131 rfl) Via.refl (Fld.ext O1 am.2.2.2.2.2.2.1) (oe1' C 90 d26_89 rfl (am.2.2.2.2.2.2.2.1.ext O1) (oe' C 91 (1 : Int32) d26_90 rfl (by decide) (ol' C 94 d26_91 rfl (by decide) ?_))))
      refine od' C 95 d26_94 rfl rfl rfl (og' C 98 d26_95 rfl (hq hw 131 rfl) Via.refl p2 (od' C 99 d26_98 rfl rfl rfl (og' C 102 d26_99 rfl (hq hw 131 rfl) Via.refl (Fld.ext O1 am.2.2.2.2.2.2.1) (oe' C 103 (0 : Int32) d26_102 rfl (by decide) ?_))))
      refine oa1' C 104 (v := (.int 1)) d26_103 rfl (am.2.2.2.2.2.2.2.1.ext O1) (by decide) rfl (oa' C 106 d26_104 rfl rfl (oc1' C (argsL := [(.ref t), .int 1, (.int (-1 : Int32))]) (W := 0) d26_106 (hq hw 154 rfl) (hq hw 155 rfl) (hq hw 8 rfl) (hq hw 156 rfl) (by decide) pd___III_Ljava_math_BigInteger_ (ct_mbyi2 l Z a0 hw am (t := t) (kt := kt) (m0 := m0) (m1 := m1) (g := (-1 : Int32)) p3) rfl (Nat.le_of_eq rfl) rfl (by decide) mems0 ?_))
      intro fv16 ph17 K18 fq19
      obtain ⟨a20, b21, kb22, rfl, fx23, fx24, fx25, fx26, fx27, fx28⟩ := fq19
      refine ⟨[a20], (freshS ⟨fx28, (fx23).lt⟩ fresh0), ?_⟩
      show Go l _ Z _ _ _ κ [a20] _ 109 _ [(.ref a20)] 2 8
      refine ob1' C (v := (.ref a20)) d26_109 rfl rfl rfl (by decide) (by decide) ?_
      exact ⟨a20, b21, kb22, rfl, fx23, fx24, fx25, fx26, fx27⟩
theorem ct_mul2 (l : Launch) (Z : State) (a0 : Array Value) (hw : HW a0 Z) {one t1 zero t0 pos neg : Addr} {k1 k0 kp kn : ClassId} {pvs nvs : List Value} (am : Amb Z a0 one t1 zero t0 pos neg k1 k0 kp kn pvs nvs) {a t : Addr} {kt : ClassId} {m0 m1 g : Int32} {h0 : Heap} (p0 : Exa Z h0 a "java/math/BigInteger") (p1 : Fld Z h0 a "java/math/BigInteger" "signum" "I" (.int g)) (p2 : Fld Z h0 a "java/math/BigInteger" "mag" "[I" (.ref t)) (p3 : Arv Z h0 t kt .int 2 [.int m0, .int m1] (.int 0)) (p4 : Exa Z h0 t "[I") (hg : g = (1 : Int32) ∨ g = (-1 : Int32)) :
    Py l Z (⟨"java/math/BigInteger", "multiply", "(Ljava/math/BigInteger;)Ljava/math/BigInteger;"⟩ : MethodName) 6 98 2 8 #[(.ref a), (.ref one)] h0 [] (fun rv h' => ∃ (p : Addr) (b : Addr) (kb : ClassId), rv = some (.ref p) ∧ Exa Z h' p "java/math/BigInteger" ∧ Fld Z h' p "java/math/BigInteger" "signum" "I" (.int g) ∧ Fld Z h' p "java/math/BigInteger" "mag" "[I" (.ref b) ∧ Arv Z h' b kb .int 2 [.int m0, .int m1] (.int 0) ∧ Exa Z h' b "[I") := by
  refine Ct.py (by0 := y8) (ml := 2) (rt := (some (.object "java/math/BigInteger"))) (rm := ({ frames := 5, cells := 2, slots := 8, locals := 85 } : Room)) ?_ (hq hw 148 rfl) (hq hw 8 rfl)
  refine Ct.mk (a0 := a0) (Ls := #[.val (.ref a), .val (.ref one)]) (plainFor_of_name pn_java_math_BigInteger) (fun m => by simp [entryFrame, mkF, argsToLocals, Value.category]) ?_
  intro κ C
  show Go l _ Z _ _ _ κ [] h0 0 #[.val (.ref a), .val (.ref one)] [] 0 0
  refine od' C 1 d25_0 rfl rfl rfl (od' C 2 d25_1 rfl rfl rfl (oe' C 3 (0 : Int32) d25_2 rfl (by decide) (oe' C 4 (0 : Int32) d25_3 rfl (by decide) (oe' C 5 (0 : Int32) d25_4 rfl (by decide) ?_))))
  refine oq' C (a := a) (argsL := [(.ref one), .int 0, .int 0, .int 0]) (W := 0) d25_5 (hq hw 149 rfl) (decl_of (hq hw 150 rfl) (hq hw 153 rfl)) (nfS (hq hw 152 rfl)) (hq hw 152 rfl) (hq hw 150 rfl) p0 (by decide) pd__Ljava_math_BigInteger_ZZI_Ljava_math_BigInteger_ (ct_mulI2 l Z a0 hw am (a := a) (t := t) (kt := kt) (m0 := m0) (m1 := m1) (g := g) p0 p1 p2 p3 p4 hg) rfl (Nat.le_of_eq rfl) rfl (by decide) mems0 ?_
  intro fv1 ph2 K3 fq4
  obtain ⟨p5, b6, kb7, rfl, fx8, fx9, fx10, fx11, fx12⟩ := fq4
  refine ⟨[], fresh0, ?_⟩
  show Go l _ Z _ _ _ κ _ _ 8 _ [(.ref p5)] 2 8
  refine ob1' C (v := (.ref p5)) d25_8 rfl rfl rfl (by decide) (by decide) ?_
  exact ⟨p5, b6, kb7, rfl, fx8, fx9, fx10, fx11, fx12⟩
theorem ct_mulI0 (l : Launch) (Z : State) (a0 : Array Value) (hw : HW a0 Z) {one t1 zero t0 pos neg : Addr} {k1 k0 kp kn : ClassId} {pvs nvs : List Value} (am : Amb Z a0 one t1 zero t0 pos neg k1 k0 kp kn pvs nvs) {h0 : Heap} :
    Py l Z (⟨"java/math/BigInteger", "multiply", "(Ljava/math/BigInteger;ZZI)Ljava/math/BigInteger;"⟩ : MethodName) 1 20 0 0 #[(.ref zero), (.ref one), .int 0, .int 0, .int 0] h0 [] (fun rv h' => rv = some (.ref zero) ∧ h' = h0) := by
  refine Ct.py (by0 := y9) (ml := 9) (rt := (some (.object "java/math/BigInteger"))) (rm := ({ frames := 0, cells := 0, slots := 0, locals := 0 } : Room)) ?_ (hq hw 153 rfl) (hq hw 8 rfl)
  refine Ct.mk (a0 := a0) (Ls := #[.val (.ref zero), .val (.ref one), .val (.int 0), .val (.int 0), .val (.int 0), .unset, .unset, .unset, .unset]) (plainFor_of_name pn_java_math_BigInteger) (fun m => by simp [entryFrame, mkF, argsToLocals, Value.category]) ?_
  intro κ C
  show Go l _ Z _ _ _ κ [] h0 0 #[.val (.ref zero), .val (.ref one), .val (.int 0), .val (.int 0), .val (.int 0), .unset, .unset, .unset, .unset] [] 0 0
  refine od' C 1 d26_0 rfl rfl rfl ?_
  refine og1' ?_
  intro O1 zO1
  refine og' C 4 d26_1 rfl (hq hw 34 rfl) Via.refl (Fld.ext O1 am.2.2.2.2.2.1) (or' C 7 d26_4 rfl (by decide) (od' C 8 d26_7 rfl rfl rfl (og' C 11 d26_8 rfl (hq hw 34 rfl) Via.refl (Fld.ext O1 am.2.2.2.2.2.2.2.2.2.2.1) (or' C 14 d26_11 rfl (by decide) ?_))))
  refine ot1' C 17 d26_14 rfl (hq hw 231 rfl) am.2.1 (ob1' C (v := (.ref zero)) d26_17 rfl rfl rfl (by decide) (by decide) ?_)
  exact ⟨rfl, rfl⟩
theorem ct_mul0 (l : Launch) (Z : State) (a0 : Array Value) (hw : HW a0 Z) {one t1 zero t0 pos neg : Addr} {k1 k0 kp kn : ClassId} {pvs nvs : List Value} (am : Amb Z a0 one t1 zero t0 pos neg k1 k0 kp kn pvs nvs) {h0 : Heap} :
    Py l Z (⟨"java/math/BigInteger", "multiply", "(Ljava/math/BigInteger;)Ljava/math/BigInteger;"⟩ : MethodName) 2 33 0 0 #[(.ref zero), (.ref one)] h0 [] (fun rv h' => rv = some (.ref zero) ∧ h' = h0) := by
  refine Ct.py (by0 := y8) (ml := 2) (rt := (some (.object "java/math/BigInteger"))) (rm := ({ frames := 1, cells := 0, slots := 0, locals := 20 } : Room)) ?_ (hq hw 148 rfl) (hq hw 8 rfl)
  refine Ct.mk (a0 := a0) (Ls := #[.val (.ref zero), .val (.ref one)]) (plainFor_of_name pn_java_math_BigInteger) (fun m => by simp [entryFrame, mkF, argsToLocals, Value.category]) ?_
  intro κ C
  show Go l _ Z _ _ _ κ [] h0 0 #[.val (.ref zero), .val (.ref one)] [] 0 0
  refine od' C 1 d25_0 rfl rfl rfl (od' C 2 d25_1 rfl rfl rfl (oe' C 3 (0 : Int32) d25_2 rfl (by decide) (oe' C 4 (0 : Int32) d25_3 rfl (by decide) (oe' C 5 (0 : Int32) d25_4 rfl (by decide) ?_))))
  refine og1' ?_
  intro O1 zO1
  refine oq' C (a := zero) (argsL := [(.ref one), .int 0, .int 0, .int 0]) (W := 0) d25_5 (hq hw 149 rfl) (decl_of (hq hw 150 rfl) (hq hw 153 rfl)) (nfS (hq hw 152 rfl)) (hq hw 152 rfl) (hq hw 150 rfl) (Exa.ext O1 am.2.2.2.2.2.2.2.2.2.1) (by decide) pd__Ljava_math_BigInteger_ZZI_Ljava_math_BigInteger_ (ct_mulI0 l Z a0 hw am) rfl (Nat.le_of_eq rfl) rfl (by decide) mems0 ?_
  intro fv2 ph3 K4 fq5
  obtain ⟨rfl, rfl⟩ := fq5
  refine ⟨[], fresh0, ?_⟩
  show Go l _ Z _ _ _ κ _ _ 8 _ [(.ref zero)] 0 0
  refine ob1' C (v := (.ref zero)) d25_8 rfl rfl rfl (by decide) (by decide) ?_
  exact ⟨rfl, rfl⟩
theorem ct_cm11 (l : Launch) (Z : State) (a0 : Array Value) (hw : HW a0 Z) {one t1 zero t0 pos neg : Addr} {k1 k0 kp kn : ClassId} {pvs nvs : List Value} (am : Amb Z a0 one t1 zero t0 pos neg k1 k0 kp kn pvs nvs) {a b t u : Addr} {kt ku : ClassId} {x0 y0 g f : Int32} {h0 : Heap} (p0 : Exa Z h0 a "java/math/BigInteger") (p1 : Fld Z h0 a "java/math/BigInteger" "signum" "I" (.int g)) (p2 : Fld Z h0 a "java/math/BigInteger" "mag" "[I" (.ref t)) (p3 : Arv Z h0 t kt .int 1 [.int x0] (.int 0)) (p4 : Exa Z h0 t "[I") (p5 : Exa Z h0 b "java/math/BigInteger") (p6 : Fld Z h0 b "java/math/BigInteger" "signum" "I" (.int f)) (p7 : Fld Z h0 b "java/math/BigInteger" "mag" "[I" (.ref u)) (p8 : Arv Z h0 u ku .int 1 [.int y0] (.int 0)) (p9 : Exa Z h0 u "[I") :
    Py l Z (⟨"java/math/BigInteger", "compareMagnitude", "(Ljava/math/BigInteger;)I"⟩ : MethodName) 1 20 0 0 #[(.ref a), (.ref b)] h0 [] (fun rv h' => ∃ (r : Int32), rv = some (.int r) ∧ h' = h0 ∧ ((r = (-1 : Int32) ∧ uN x0 < uN y0) ∨ (r = (0 : Int32) ∧ uN x0 = uN y0) ∨ (r = (1 : Int32) ∧ uN y0 < uN x0))) := by
  refine Ct.py (by0 := y3) (ml := 9) (rt := (some .int)) (rm := ({ frames := 0, cells := 0, slots := 0, locals := 0 } : Room)) ?_ (hq hw 181 rfl) (hq hw 8 rfl)
  refine Ct.mk (a0 := a0) (Ls := #[.val (.ref a), .val (.ref b), .unset, .unset, .unset, .unset, .unset, .unset, .unset]) (plainFor_of_name pn_java_math_BigInteger) (fun m => by simp [entryFrame, mkF, argsToLocals, Value.category]) ?_
  intro κ C
  show Go l _ Z _ _ _ κ [] h0 0 #[.val (.ref a), .val (.ref b), .unset, .unset, .unset, .unset, .unset, .unset, .unset] [] 0 0
  refine od' C 1 d31_0 rfl rfl rfl (og' C 4 d31_1 rfl (hq hw 131 rfl) Via.refl p2 (oj1' C 5 (Ls' := #[.val (.ref a), .val (.ref b), .val (.ref t), .unset, .unset, .unset, .unset, .unset, .unset]) d31_4 rfl rfl rfl (od' C 6 d31_5 rfl rfl rfl (oe1' C 7 d31_6 rfl p3 ?_))))
  refine oh' C 8 (Ls' := #[.val (.ref a), .val (.ref b), .val (.ref t), .val (.int 1), .unset, .unset, .unset, .unset, .unset]) d31_7 rfl rfl (od' C 9 d31_8 rfl rfl rfl (og' C 12 d31_9 rfl (hq hw 131 rfl) Via.refl p7 (oy' C 14 (Ls' := #[.val (.ref a), .val (.ref b), .val (.ref t), .val (.int 1), .val (.ref u), .unset, .unset, .unset, .unset]) d31_12 rfl rfl rfl (oc' C 16 d31_14 rfl rfl rfl ?_))))
  refine oe1' C 17 d31_16 rfl p8 (of' C 19 (Ls' := #[.val (.ref a), .val (.ref b), .val (.ref t), .val (.int 1), .val (.ref u), .val (.int 1), .unset, .unset, .unset]) d31_17 rfl rfl (ob' C 20 d31_19 rfl rfl (oa' C 22 d31_20 rfl rfl (oj' C (pc' := 27) d31_22 (by decide) (by decide) (by decide) ?_))))
  refine ob' C 28 d31_27 rfl rfl (oa' C 30 d31_28 rfl rfl (oj' C (pc' := 35) d31_30 (by decide) (by decide) (by decide) (oe' C 36 (0 : Int32) d31_35 rfl (by decide) (of' C 38 (Ls' := #[.val (.ref a), .val (.ref b), .val (.ref t), .val (.int 1), .val (.ref u), .val (.int 1), .val (.int 0), .unset, .unset]) d31_36 rfl rfl ?_))))
  refine oa' C 40 d31_38 rfl rfl (ob' C 41 d31_40 rfl rfl (ol' C 44 d31_41 rfl (by decide) (od' C 45 d31_44 rfl rfl rfl (oa' C 47 d31_45 rfl rfl ?_))))
  refine oa1' C 48 (v := (.int x0)) d31_47 rfl p3 (by decide) rfl (of' C 50 (Ls' := #[.val (.ref a), .val (.ref b), .val (.ref t), .val (.int 1), .val (.ref u), .val (.int 1), .val (.int 0), .val (.int x0), .unset]) d31_48 rfl rfl (oc' C 52 d31_50 rfl rfl rfl (oa' C 54 d31_52 rfl rfl (oa1' C 55 (v := (.int y0)) d31_54 rfl p8 (by decide) rfl ?_))))
  refine of' C 57 (Ls' := #[.val (.ref a), .val (.ref b), .val (.ref t), .val (.int 1), .val (.ref u), .val (.int 1), .val (.int 0), .val (.int x0), .val (.int y0)]) d31_55 rfl rfl (oa' C 59 d31_57 rfl rfl (oa' C 61 d31_59 rfl rfl ?_))
  by_cases q0 : x0 = y0
  · skip
    refine oj' C (pc' := 88) d31_61 (teq q0).1 (by decide) (by decide) (oo' C 91 (Ls' := #[.val (.ref a), .val (.ref b), .val (.ref t), .val (.int 1), .val (.ref u), .val (.int 1), .val (.int 1), .val (.int x0), .val (.int y0)]) (1 : Int32) d31_88 rfl (by decide) rfl rfl (os' C (pc' := 38) d31_91 (by decide) (by decide) (oa' C 40 d31_38 rfl rfl (ob' C 41 d31_40 rfl rfl ?_))))
    refine oj' C (pc' := 94) d31_41 (by decide) (by decide) (by decide) (oe' C 95 (0 : Int32) d31_94 rfl (by decide) (op' C d31_95 rfl (by decide) (by decide) ?_))
    exact ⟨(0 : Int32), rfl, rfl, (Or.inr (Or.inl ⟨rfl, congrArg uN q0⟩))⟩
  · skip
    refine ol' C 64 d31_61 rfl (feq q0).1 (oa' C 66 d31_64 rfl rfl (ow1' C 67 (x0.toInt64) d31_66 rfl rfl (oq1' C 70 (v := (4294967295 : Int64)) d31_67 rfl (hq hw 182 rfl) (ou1' C 71 ((x0.toInt64) &&& (4294967295 : Int64)) d31_70 rfl rfl ?_))))
    refine oa' C 73 d31_71 rfl rfl (ow1' C 74 (y0.toInt64) d31_73 rfl rfl (oq1' C 77 (v := (4294967295 : Int64)) d31_74 rfl (hq hw 182 rfl) (ou1' C 78 ((y0.toInt64) &&& (4294967295 : Int64)) d31_77 rfl rfl (oh1' C 79 (XT.cmpL ((x0.toInt64) &&& (4294967295 : Int64)) ((y0.toInt64) &&& (4294967295 : Int64))) d31_78 rfl rfl ?_))))
    by_cases c0 : (XT.cmpL ((x0.toInt64) &&& (4294967295 : Int64)) ((y0.toInt64) &&& (4294967295 : Int64))) < (0 : Int32)
    · skip
      refine or' C 82 d31_79 rfl (tlt c0).2.1 (oe' C 83 (-1 : Int32) d31_82 rfl (by decide) (os' C (pc' := 87) d31_83 (by decide) (by decide) (op' C d31_87 rfl (by decide) (by decide) ?_)))
      exact ⟨(-1 : Int32), rfl, rfl, (Or.inl ⟨rfl, by have := mlt.mp c0; have := uN_lt x0; have := uN_lt y0; omega⟩)⟩
    · skip
      refine on' C (pc' := 86) d31_79 (flt c0).2.1 (by decide) (by decide) (oe' C 87 (1 : Int32) d31_86 rfl (by decide) (op' C d31_87 rfl (by decide) (by decide) ?_))
      exact ⟨(1 : Int32), rfl, rfl, (Or.inr (Or.inr ⟨rfl, by have := mgt q0 c0; have := uN_lt x0; have := uN_lt y0; omega⟩))⟩
theorem ct_cm12 (l : Launch) (Z : State) (a0 : Array Value) (hw : HW a0 Z) {one t1 zero t0 pos neg : Addr} {k1 k0 kp kn : ClassId} {pvs nvs : List Value} (am : Amb Z a0 one t1 zero t0 pos neg k1 k0 kp kn pvs nvs) {a b t u : Addr} {kt ku : ClassId} {x0 y0 y1 g f : Int32} {h0 : Heap} (p0 : Exa Z h0 a "java/math/BigInteger") (p1 : Fld Z h0 a "java/math/BigInteger" "signum" "I" (.int g)) (p2 : Fld Z h0 a "java/math/BigInteger" "mag" "[I" (.ref t)) (p3 : Arv Z h0 t kt .int 1 [.int x0] (.int 0)) (p4 : Exa Z h0 t "[I") (p5 : Exa Z h0 b "java/math/BigInteger") (p6 : Fld Z h0 b "java/math/BigInteger" "signum" "I" (.int f)) (p7 : Fld Z h0 b "java/math/BigInteger" "mag" "[I" (.ref u)) (p8 : Arv Z h0 u ku .int 2 [.int y0, .int y1] (.int 0)) (p9 : Exa Z h0 u "[I") (hy0 : ¬ (y0 = (0 : Int32))) :
    Py l Z (⟨"java/math/BigInteger", "compareMagnitude", "(Ljava/math/BigInteger;)I"⟩ : MethodName) 1 20 0 0 #[(.ref a), (.ref b)] h0 [] (fun rv h' => ∃ (r : Int32), rv = some (.int r) ∧ h' = h0 ∧ ((r = (-1 : Int32) ∧ uN x0 < uN y0 * 4294967296 + uN y1) ∨ (r = (0 : Int32) ∧ uN x0 = uN y0 * 4294967296 + uN y1) ∨ (r = (1 : Int32) ∧ uN y0 * 4294967296 + uN y1 < uN x0))) := by
  refine Ct.py (by0 := y3) (ml := 9) (rt := (some .int)) (rm := ({ frames := 0, cells := 0, slots := 0, locals := 0 } : Room)) ?_ (hq hw 181 rfl) (hq hw 8 rfl)
  refine Ct.mk (a0 := a0) (Ls := #[.val (.ref a), .val (.ref b), .unset, .unset, .unset, .unset, .unset, .unset, .unset]) (plainFor_of_name pn_java_math_BigInteger) (fun m => by simp [entryFrame, mkF, argsToLocals, Value.category]) ?_
  intro κ C
  show Go l _ Z _ _ _ κ [] h0 0 #[.val (.ref a), .val (.ref b), .unset, .unset, .unset, .unset, .unset, .unset, .unset] [] 0 0
  refine od' C 1 d31_0 rfl rfl rfl (og' C 4 d31_1 rfl (hq hw 131 rfl) Via.refl p2 (oj1' C 5 (Ls' := #[.val (.ref a), .val (.ref b), .val (.ref t), .unset, .unset, .unset, .unset, .unset, .unset]) d31_4 rfl rfl rfl (od' C 6 d31_5 rfl rfl rfl (oe1' C 7 d31_6 rfl p3 ?_))))
  refine oh' C 8 (Ls' := #[.val (.ref a), .val (.ref b), .val (.ref t), .val (.int 1), .unset, .unset, .unset, .unset, .unset]) d31_7 rfl rfl (od' C 9 d31_8 rfl rfl rfl (og' C 12 d31_9 rfl (hq hw 131 rfl) Via.refl p7 (oy' C 14 (Ls' := #[.val (.ref a), .val (.ref b), .val (.ref t), .val (.int 1), .val (.ref u), .unset, .unset, .unset, .unset]) d31_12 rfl rfl rfl (oc' C 16 d31_14 rfl rfl rfl ?_))))
  refine oe1' C 17 d31_16 rfl p8 (of' C 19 (Ls' := #[.val (.ref a), .val (.ref b), .val (.ref t), .val (.int 1), .val (.ref u), .val (.int 2), .unset, .unset, .unset]) d31_17 rfl rfl (ob' C 20 d31_19 rfl rfl (oa' C 22 d31_20 rfl rfl (ol' C 25 d31_22 rfl (by decide) ?_))))
  refine oe' C 26 (-1 : Int32) d31_25 rfl (by decide) (op' C d31_26 rfl (by decide) (by decide) ?_)
  exact ⟨(-1 : Int32), rfl, rfl, (Or.inl ⟨rfl, by have := uN_lt x0; have := uN_lt y0; have := uN_ne hy0; omega⟩)⟩
theorem ct_cm21 (l : Launch) (Z : State) (a0 : Array Value) (hw : HW a0 Z) {one t1 zero t0 pos neg : Addr} {k1 k0 kp kn : ClassId} {pvs nvs : List Value} (am : Amb Z a0 one t1 zero t0 pos neg k1 k0 kp kn pvs nvs) {a b t u : Addr} {kt ku : ClassId} {x0 x1 y0 g f : Int32} {h0 : Heap} (p0 : Exa Z h0 a "java/math/BigInteger") (p1 : Fld Z h0 a "java/math/BigInteger" "signum" "I" (.int g)) (p2 : Fld Z h0 a "java/math/BigInteger" "mag" "[I" (.ref t)) (p3 : Arv Z h0 t kt .int 2 [.int x0, .int x1] (.int 0)) (p4 : Exa Z h0 t "[I") (p5 : Exa Z h0 b "java/math/BigInteger") (p6 : Fld Z h0 b "java/math/BigInteger" "signum" "I" (.int f)) (p7 : Fld Z h0 b "java/math/BigInteger" "mag" "[I" (.ref u)) (p8 : Arv Z h0 u ku .int 1 [.int y0] (.int 0)) (p9 : Exa Z h0 u "[I") (hx0 : ¬ (x0 = (0 : Int32))) :
    Py l Z (⟨"java/math/BigInteger", "compareMagnitude", "(Ljava/math/BigInteger;)I"⟩ : MethodName) 1 20 0 0 #[(.ref a), (.ref b)] h0 [] (fun rv h' => ∃ (r : Int32), rv = some (.int r) ∧ h' = h0 ∧ ((r = (-1 : Int32) ∧ uN x0 * 4294967296 + uN x1 < uN y0) ∨ (r = (0 : Int32) ∧ uN x0 * 4294967296 + uN x1 = uN y0) ∨ (r = (1 : Int32) ∧ uN y0 < uN x0 * 4294967296 + uN x1))) := by
  refine Ct.py (by0 := y3) (ml := 9) (rt := (some .int)) (rm := ({ frames := 0, cells := 0, slots := 0, locals := 0 } : Room)) ?_ (hq hw 181 rfl) (hq hw 8 rfl)
  refine Ct.mk (a0 := a0) (Ls := #[.val (.ref a), .val (.ref b), .unset, .unset, .unset, .unset, .unset, .unset, .unset]) (plainFor_of_name pn_java_math_BigInteger) (fun m => by simp [entryFrame, mkF, argsToLocals, Value.category]) ?_
  intro κ C
  show Go l _ Z _ _ _ κ [] h0 0 #[.val (.ref a), .val (.ref b), .unset, .unset, .unset, .unset, .unset, .unset, .unset] [] 0 0
  refine od' C 1 d31_0 rfl rfl rfl (og' C 4 d31_1 rfl (hq hw 131 rfl) Via.refl p2 (oj1' C 5 (Ls' := #[.val (.ref a), .val (.ref b), .val (.ref t), .unset, .unset, .unset, .unset, .unset, .unset]) d31_4 rfl rfl rfl (od' C 6 d31_5 rfl rfl rfl (oe1' C 7 d31_6 rfl p3 ?_))))
  refine oh' C 8 (Ls' := #[.val (.ref a), .val (.ref b), .val (.ref t), .val (.int 2), .unset, .unset, .unset, .unset, .unset]) d31_7 rfl rfl (od' C 9 d31_8 rfl rfl rfl (og' C 12 d31_9 rfl (hq hw 131 rfl) Via.refl p7 (oy' C 14 (Ls' := #[.val (.ref a), .val (.ref b), .val (.ref t), .val (.int 2), .val (.ref u), .unset, .unset, .unset, .unset]) d31_12 rfl rfl rfl (oc' C 16 d31_14 rfl rfl rfl ?_))))
  refine oe1' C 17 d31_16 rfl p8 (of' C 19 (Ls' := #[.val (.ref a), .val (.ref b), .val (.ref t), .val (.int 2), .val (.ref u), .val (.int 1), .unset, .unset, .unset]) d31_17 rfl rfl (ob' C 20 d31_19 rfl rfl (oa' C 22 d31_20 rfl rfl (oj' C (pc' := 27) d31_22 (by decide) (by decide) (by decide) ?_))))
  refine ob' C 28 d31_27 rfl rfl (oa' C 30 d31_28 rfl rfl (ol' C 33 d31_30 rfl (by decide) (oe' C 34 (1 : Int32) d31_33 rfl (by decide) (op' C d31_34 rfl (by decide) (by decide) ?_))))
  exact ⟨(1 : Int32), rfl, rfl, (Or.inr (Or.inr ⟨rfl, by have := uN_lt x0; have := uN_lt y0; have := uN_ne hx0; omega⟩))⟩
theorem ct_cm22 (l : Launch) (Z : State) (a0 : Array Value) (hw : HW a0 Z) {one t1 zero t0 pos neg : Addr} {k1 k0 kp kn : ClassId} {pvs nvs : List Value} (am : Amb Z a0 one t1 zero t0 pos neg k1 k0 kp kn pvs nvs) {a b t u : Addr} {kt ku : ClassId} {x0 x1 y0 y1 g f : Int32} {h0 : Heap} (p0 : Exa Z h0 a "java/math/BigInteger") (p1 : Fld Z h0 a "java/math/BigInteger" "signum" "I" (.int g)) (p2 : Fld Z h0 a "java/math/BigInteger" "mag" "[I" (.ref t)) (p3 : Arv Z h0 t kt .int 2 [.int x0, .int x1] (.int 0)) (p4 : Exa Z h0 t "[I") (p5 : Exa Z h0 b "java/math/BigInteger") (p6 : Fld Z h0 b "java/math/BigInteger" "signum" "I" (.int f)) (p7 : Fld Z h0 b "java/math/BigInteger" "mag" "[I" (.ref u)) (p8 : Arv Z h0 u ku .int 2 [.int y0, .int y1] (.int 0)) (p9 : Exa Z h0 u "[I") (hx0 : ¬ (x0 = (0 : Int32))) (hy0 : ¬ (y0 = (0 : Int32))) :
    Py l Z (⟨"java/math/BigInteger", "compareMagnitude", "(Ljava/math/BigInteger;)I"⟩ : MethodName) 1 20 0 0 #[(.ref a), (.ref b)] h0 [] (fun rv h' => ∃ (r : Int32), rv = some (.int r) ∧ h' = h0 ∧ ((r = (-1 : Int32) ∧ uN x0 * 4294967296 + uN x1 < uN y0 * 4294967296 + uN y1) ∨ (r = (0 : Int32) ∧ uN x0 * 4294967296 + uN x1 = uN y0 * 4294967296 + uN y1) ∨ (r = (1 : Int32) ∧ uN y0 * 4294967296 + uN y1 < uN x0 * 4294967296 + uN x1))) := by
  refine Ct.py (by0 := y3) (ml := 9) (rt := (some .int)) (rm := ({ frames := 0, cells := 0, slots := 0, locals := 0 } : Room)) ?_ (hq hw 181 rfl) (hq hw 8 rfl)
  refine Ct.mk (a0 := a0) (Ls := #[.val (.ref a), .val (.ref b), .unset, .unset, .unset, .unset, .unset, .unset, .unset]) (plainFor_of_name pn_java_math_BigInteger) (fun m => by simp [entryFrame, mkF, argsToLocals, Value.category]) ?_
  intro κ C
  show Go l _ Z _ _ _ κ [] h0 0 #[.val (.ref a), .val (.ref b), .unset, .unset, .unset, .unset, .unset, .unset, .unset] [] 0 0
  refine od' C 1 d31_0 rfl rfl rfl (og' C 4 d31_1 rfl (hq hw 131 rfl) Via.refl p2 (oj1' C 5 (Ls' := #[.val (.ref a), .val (.ref b), .val (.ref t), .unset, .unset, .unset, .unset, .unset, .unset]) d31_4 rfl rfl rfl (od' C 6 d31_5 rfl rfl rfl (oe1' C 7 d31_6 rfl p3 ?_))))
  refine oh' C 8 (Ls' := #[.val (.ref a), .val (.ref b), .val (.ref t), .val (.int 2), .unset, .unset, .unset, .unset, .unset]) d31_7 rfl rfl (od' C 9 d31_8 rfl rfl rfl (og' C 12 d31_9 rfl (hq hw 131 rfl) Via.refl p7 (oy' C 14 (Ls' := #[.val (.ref a), .val (.ref b), .val (.ref t), .val (.int 2), .val (.ref u), .unset, .unset, .unset, .unset]) d31_12 rfl rfl rfl (oc' C 16 d31_14 rfl rfl rfl ?_))))
  refine oe1' C 17 d31_16 rfl p8 (of' C 19 (Ls' := #[.val (.ref a), .val (.ref b), .val (.ref t), .val (.int 2), .val (.ref u), .val (.int 2), .unset, .unset, .unset]) d31_17 rfl rfl (ob' C 20 d31_19 rfl rfl (oa' C 22 d31_20 rfl rfl (oj' C (pc' := 27) d31_22 (by decide) (by decide) (by decide) ?_))))
  refine ob' C 28 d31_27 rfl rfl (oa' C 30 d31_28 rfl rfl (oj' C (pc' := 35) d31_30 (by decide) (by decide) (by decide) (oe' C 36 (0 : Int32) d31_35 rfl (by decide) (of' C 38 (Ls' := #[.val (.ref a), .val (.ref b), .val (.ref t), .val (.int 2), .val (.ref u), .val (.int 2), .val (.int 0), .unset, .unset]) d31_36 rfl rfl ?_))))
  refine oa' C 40 d31_38 rfl rfl (ob' C 41 d31_40 rfl rfl (ol' C 44 d31_41 rfl (by decide) (od' C 45 d31_44 rfl rfl rfl (oa' C 47 d31_45 rfl rfl ?_))))
  refine oa1' C 48 (v := (.int x0)) d31_47 rfl p3 (by decide) rfl (of' C 50 (Ls' := #[.val (.ref a), .val (.ref b), .val (.ref t), .val (.int 2), .val (.ref u), .val (.int 2), .val (.int 0), .val (.int x0), .unset]) d31_48 rfl rfl (oc' C 52 d31_50 rfl rfl rfl (oa' C 54 d31_52 rfl rfl (oa1' C 55 (v := (.int y0)) d31_54 rfl p8 (by decide) rfl ?_))))
  refine of' C 57 (Ls' := #[.val (.ref a), .val (.ref b), .val (.ref t), .val (.int 2), .val (.ref u), .val (.int 2), .val (.int 0), .val (.int x0), .val (.int y0)]) d31_55 rfl rfl (oa' C 59 d31_57 rfl rfl (oa' C 61 d31_59 rfl rfl ?_))
  by_cases q0 : x0 = y0
  · skip
    refine oj' C (pc' := 88) d31_61 (teq q0).1 (by decide) (by decide) (oo' C 91 (Ls' := #[.val (.ref a), .val (.ref b), .val (.ref t), .val (.int 2), .val (.ref u), .val (.int 2), .val (.int 1), .val (.int x0), .val (.int y0)]) (1 : Int32) d31_88 rfl (by decide) rfl rfl (os' C (pc' := 38) d31_91 (by decide) (by decide) (oa' C 40 d31_38 rfl rfl (ob' C 41 d31_40 rfl rfl ?_))))
    refine ol' C 44 d31_41 rfl (by decide) (od' C 45 d31_44 rfl rfl rfl (oa' C 47 d31_45 rfl rfl (oa1' C 48 (v := (.int x1)) d31_47 rfl p3 (by decide) rfl (of' C 50 (Ls' := #[.val (.ref a), .val (.ref b), .val (.ref t), .val (.int 2), .val (.ref u), .val (.int 2), .val (.int 1), .val (.int x1), .val (.int y0)]) d31_48 rfl rfl ?_))))
    refine oc' C 52 d31_50 rfl rfl rfl (oa' C 54 d31_52 rfl rfl (oa1' C 55 (v := (.int y1)) d31_54 rfl p8 (by decide) rfl (of' C 57 (Ls' := #[.val (.ref a), .val (.ref b), .val (.ref t), .val (.int 2), .val (.ref u), .val (.int 2), .val (.int 1), .val (.int x1), .val (.int y1)]) d31_55 rfl rfl (oa' C 59 d31_57 rfl rfl ?_))))
    refine oa' C 61 d31_59 rfl rfl ?_
    by_cases q1 : x1 = y1
    · skip
      refine oj' C (pc' := 88) d31_61 (teq q1).1 (by decide) (by decide) (oo' C 91 (Ls' := #[.val (.ref a), .val (.ref b), .val (.ref t), .val (.int 2), .val (.ref u), .val (.int 2), .val (.int 2), .val (.int x1), .val (.int y1)]) (1 : Int32) d31_88 rfl (by decide) rfl rfl (os' C (pc' := 38) d31_91 (by decide) (by decide) (oa' C 40 d31_38 rfl rfl (ob' C 41 d31_40 rfl rfl ?_))))
      refine oj' C (pc' := 94) d31_41 (by decide) (by decide) (by decide) (oe' C 95 (0 : Int32) d31_94 rfl (by decide) (op' C d31_95 rfl (by decide) (by decide) ?_))
      exact ⟨(0 : Int32), rfl, rfl, (Or.inr (Or.inl ⟨rfl, by have := congrArg uN q0; have := congrArg uN q1; omega⟩))⟩
    · skip
      refine ol' C 64 d31_61 rfl (feq q1).1 (oa' C 66 d31_64 rfl rfl (ow1' C 67 (x1.toInt64) d31_66 rfl rfl (oq1' C 70 (v := (4294967295 : Int64)) d31_67 rfl (hq hw 182 rfl) (ou1' C 71 ((x1.toInt64) &&& (4294967295 : Int64)) d31_70 rfl rfl ?_))))
      refine oa' C 73 d31_71 rfl rfl (ow1' C 74 (y1.toInt64) d31_73 rfl rfl (oq1' C 77 (v := (4294967295 : Int64)) d31_74 rfl (hq hw 182 rfl) (ou1' C 78 ((y1.toInt64) &&& (4294967295 : Int64)) d31_77 rfl rfl (oh1' C 79 (XT.cmpL ((x1.toInt64) &&& (4294967295 : Int64)) ((y1.toInt64) &&& (4294967295 : Int64))) d31_78 rfl rfl ?_))))
      by_cases c1 : (XT.cmpL ((x1.toInt64) &&& (4294967295 : Int64)) ((y1.toInt64) &&& (4294967295 : Int64))) < (0 : Int32)
      · skip
        refine or' C 82 d31_79 rfl (tlt c1).2.1 (oe' C 83 (-1 : Int32) d31_82 rfl (by decide) (os' C (pc' := 87) d31_83 (by decide) (by decide) (op' C d31_87 rfl (by decide) (by decide) ?_)))
        exact ⟨(-1 : Int32), rfl, rfl, (Or.inl ⟨rfl, by have := mlt.mp c1; have := congrArg uN q0; have := uN_lt x0; have := uN_lt y0; have := uN_lt x1; have := uN_lt y1; omega⟩)⟩
      · skip
        refine on' C (pc' := 86) d31_79 (flt c1).2.1 (by decide) (by decide) (oe' C 87 (1 : Int32) d31_86 rfl (by decide) (op' C d31_87 rfl (by decide) (by decide) ?_))
        exact ⟨(1 : Int32), rfl, rfl, (Or.inr (Or.inr ⟨rfl, by have := mgt q1 c1; have := congrArg uN q0; have := uN_lt x0; have := uN_lt y0; have := uN_lt x1; have := uN_lt y1; omega⟩))⟩
  · skip
    refine ol' C 64 d31_61 rfl (feq q0).1 (oa' C 66 d31_64 rfl rfl (ow1' C 67 (x0.toInt64) d31_66 rfl rfl (oq1' C 70 (v := (4294967295 : Int64)) d31_67 rfl (hq hw 182 rfl) (ou1' C 71 ((x0.toInt64) &&& (4294967295 : Int64)) d31_70 rfl rfl ?_))))
    refine oa' C 73 d31_71 rfl rfl (ow1' C 74 (y0.toInt64) d31_73 rfl rfl (oq1' C 77 (v := (4294967295 : Int64)) d31_74 rfl (hq hw 182 rfl) (ou1' C 78 ((y0.toInt64) &&& (4294967295 : Int64)) d31_77 rfl rfl (oh1' C 79 (XT.cmpL ((x0.toInt64) &&& (4294967295 : Int64)) ((y0.toInt64) &&& (4294967295 : Int64))) d31_78 rfl rfl ?_))))
    by_cases c0 : (XT.cmpL ((x0.toInt64) &&& (4294967295 : Int64)) ((y0.toInt64) &&& (4294967295 : Int64))) < (0 : Int32)
    · skip
      refine or' C 82 d31_79 rfl (tlt c0).2.1 (oe' C 83 (-1 : Int32) d31_82 rfl (by decide) (os' C (pc' := 87) d31_83 (by decide) (by decide) (op' C d31_87 rfl (by decide) (by decide) ?_)))
      exact ⟨(-1 : Int32), rfl, rfl, (Or.inl ⟨rfl, by have := mlt.mp c0; have := uN_lt x0; have := uN_lt y0; have := uN_lt x1; have := uN_lt y1; omega⟩)⟩
    · skip
      refine on' C (pc' := 86) d31_79 (flt c0).2.1 (by decide) (by decide) (oe' C 87 (1 : Int32) d31_86 rfl (by decide) (op' C d31_87 rfl (by decide) (by decide) ?_))
      exact ⟨(1 : Int32), rfl, rfl, (Or.inr (Or.inr ⟨rfl, by have := mgt q0 c0; have := uN_lt x0; have := uN_lt y0; have := uN_lt x1; have := uN_lt y1; omega⟩))⟩
theorem ct_bc00 (l : Launch) (Z : State) (a0 : Array Value) (hw : HW a0 Z) {one t1 zero t0 pos neg : Addr} {k1 k0 kp kn : ClassId} {pvs nvs : List Value} (am : Amb Z a0 one t1 zero t0 pos neg k1 k0 kp kn pvs nvs) {h0 : Heap} :
    Py l Z (⟨"java/math/BigInteger", "compareTo", "(Ljava/math/BigInteger;)I"⟩ : MethodName) 1 13 0 0 #[(.ref zero), (.ref zero)] h0 [] (fun rv h' => ∃ (r : Int32), rv = some (.int r) ∧ h' = h0 ∧ ((r = (-1 : Int32) ∧ (0 : Int) < (0 : Int)) ∨ (r = (0 : Int32) ∧ (0 : Int) = (0 : Int)) ∨ (r = (1 : Int32) ∧ (0 : Int) < (0 : Int)))) := by
  refine Ct.py (by0 := y2) (ml := 2) (rt := (some .int)) (rm := ({ frames := 0, cells := 0, slots := 0, locals := 0 } : Room)) ?_ (hq hw 176 rfl) (hq hw 8 rfl)
  refine Ct.mk (a0 := a0) (Ls := #[.val (.ref zero), .val (.ref zero)]) (plainFor_of_name pn_java_math_BigInteger) (fun m => by simp [entryFrame, mkF, argsToLocals, Value.category]) ?_
  intro κ C
  show Go l _ Z _ _ _ κ [] h0 0 #[.val (.ref zero), .val (.ref zero)] [] 0 0
  refine od' C 1 d30_0 rfl rfl rfl ?_
  refine og1' ?_
  intro O1 zO1
  refine og' C 4 d30_1 rfl (hq hw 34 rfl) Via.refl (Fld.ext O1 am.2.2.2.2.2.2.2.2.2.2.1) (od' C 5 d30_4 rfl rfl rfl (og' C 8 d30_5 rfl (hq hw 34 rfl) Via.refl (Fld.ext O1 am.2.2.2.2.2.2.2.2.2.2.1) (ol' C 11 d30_8 rfl (by decide) (od' C 12 d30_11 rfl rfl rfl ?_))))
  refine og' C 15 d30_12 rfl (hq hw 34 rfl) Via.refl (Fld.ext O1 am.2.2.2.2.2.2.2.2.2.2.1) (on2' C (pc' := 56) d30_15 (by decide) (by decide) (by decide) (by decide) (oe' C 57 (0 : Int32) d30_56 rfl (by decide) (op' C d30_57 rfl (by decide) (by decide) ?_)))
  exact ⟨(0 : Int32), rfl, rfl, (Or.inr (Or.inl ⟨rfl, by have e1 := toI1; have e2 := toIm1;  (try simp only [bv1, bv2, e1, e2]) <;> omega⟩))⟩
theorem ct_bc01 (l : Launch) (Z : State) (a0 : Array Value) (hw : HW a0 Z) {one t1 zero t0 pos neg : Addr} {k1 k0 kp kn : ClassId} {pvs nvs : List Value} (am : Amb Z a0 one t1 zero t0 pos neg k1 k0 kp kn pvs nvs) {b u : Addr} {ku : ClassId} {y0 f : Int32} {h0 : Heap} (p0 : Exa Z h0 b "java/math/BigInteger") (p1 : Fld Z h0 b "java/math/BigInteger" "signum" "I" (.int f)) (p2 : Fld Z h0 b "java/math/BigInteger" "mag" "[I" (.ref u)) (p3 : Arv Z h0 u ku .int 1 [.int y0] (.int 0)) (p4 : Exa Z h0 u "[I") (hy0 : ¬ (y0 = (0 : Int32))) (hf : f = (1 : Int32) ∨ f = (-1 : Int32)) :
    Py l Z (⟨"java/math/BigInteger", "compareTo", "(Ljava/math/BigInteger;)I"⟩ : MethodName) 1 13 0 0 #[(.ref zero), (.ref b)] h0 [] (fun rv h' => ∃ (r : Int32), rv = some (.int r) ∧ h' = h0 ∧ ((r = (-1 : Int32) ∧ (0 : Int) < (bv1 f y0)) ∨ (r = (0 : Int32) ∧ (0 : Int) = (bv1 f y0)) ∨ (r = (1 : Int32) ∧ (bv1 f y0) < (0 : Int)))) := by
  rcases hf with rfl | rfl
  · refine Ct.py (by0 := y2) (ml := 2) (rt := (some .int)) (rm := ({ frames := 0, cells := 0, slots := 0, locals := 0 } : Room)) ?_ (hq hw 176 rfl) (hq hw 8 rfl)
    refine Ct.mk (a0 := a0) (Ls := #[.val (.ref zero), .val (.ref b)]) (plainFor_of_name pn_java_math_BigInteger) (fun m => by first | (simp [entryFrame, mkF, argsToLocals, Value.category]; done) | rfl) ?_
    intro κ C
    show Go l _ Z _ _ _ κ [] h0 0 #[.val (.ref zero), .val (.ref b)] [] 0 0
    refine od' C 1 d30_0 rfl rfl rfl ?_
    refine og1' ?_
    intro O1 zO1
    refine og' C 4 d30_1 rfl (hq hw 34 rfl) Via.refl (Fld.ext O1 am.2.2.2.2.2.2.2.2.2.2.1) (od' C 5 d30_4 rfl rfl rfl (og' C 8 d30_5 rfl (hq hw 34 rfl) Via.refl p1 (oj' C (pc' := 58) d30_8 (by decide) (by decide) (by decide) (od' C 59 d30_58 rfl rfl rfl ?_))))
    refine og' C 62 d30_59 rfl (hq hw 34 rfl) Via.refl (Fld.ext O1 am.2.2.2.2.2.2.2.2.2.2.1) (od' C 63 d30_62 rfl rfl rfl (og' C 66 d30_63 rfl (hq hw 34 rfl) Via.refl p1 (oj' C (pc' := 73) d30_66 (by decide) (by decide) (by decide) (oe' C 74 (-1 : Int32) d30_73 rfl (by decide) ?_))))
    refine op' C d30_74 rfl (by decide) (by decide) ?_
    exact ⟨(-1 : Int32), rfl, rfl, (Or.inl ⟨rfl, by have e1 := toI1; have e2 := toIm1; have := uN_lt y0; have := uN_ne hy0;  (try simp only [bv1, bv2, e1, e2]) <;> omega⟩)⟩
  · refine Ct.py (by0 := y2) (ml := 2) (rt := (some .int)) (rm := ({ frames := 0, cells := 0, slots := 0, locals := 0 } : Room)) ?_ (hq hw 176 rfl) (hq hw 8 rfl)
    refine Ct.mk (a0 := a0) (Ls := #[.val (.ref zero), .val (.ref b)]) (plainFor_of_name pn_java_math_BigInteger) (fun m => by first | (simp [entryFrame, mkF, argsToLocals, Value.category]; done) | rfl) ?_
    intro κ C
    show Go l _ Z _ _ _ κ [] h0 0 #[.val (.ref zero), .val (.ref b)] [] 0 0
    refine od' C 1 d30_0 rfl rfl rfl ?_
    refine og1' ?_
    intro O1 zO1
    refine og' C 4 d30_1 rfl (hq hw 34 rfl) Via.refl (Fld.ext O1 am.2.2.2.2.2.2.2.2.2.2.1) (od' C 5 d30_4 rfl rfl rfl (og' C 8 d30_5 rfl (hq hw 34 rfl) Via.refl p1 (oj' C (pc' := 58) d30_8 (by decide) (by decide) (by decide) (od' C 59 d30_58 rfl rfl rfl ?_))))
    refine og' C 62 d30_59 rfl (hq hw 34 rfl) Via.refl (Fld.ext O1 am.2.2.2.2.2.2.2.2.2.2.1) (od' C 63 d30_62 rfl rfl rfl (og' C 66 d30_63 rfl (hq hw 34 rfl) Via.refl p1 (ol' C 69 d30_66 rfl (by decide) (oe' C 70 (1 : Int32) d30_69 rfl (by decide) ?_))))
    refine os' C (pc' := 74) d30_70 (by decide) (by decide) (op' C d30_74 rfl (by decide) (by decide) ?_)
    exact ⟨(1 : Int32), rfl, rfl, (Or.inr (Or.inr ⟨rfl, by have e1 := toI1; have e2 := toIm1; have := uN_lt y0; have := uN_ne hy0;  (try simp only [bv1, bv2, e1, e2]) <;> omega⟩))⟩
theorem ct_bc02 (l : Launch) (Z : State) (a0 : Array Value) (hw : HW a0 Z) {one t1 zero t0 pos neg : Addr} {k1 k0 kp kn : ClassId} {pvs nvs : List Value} (am : Amb Z a0 one t1 zero t0 pos neg k1 k0 kp kn pvs nvs) {b u : Addr} {ku : ClassId} {y0 y1 f : Int32} {h0 : Heap} (p0 : Exa Z h0 b "java/math/BigInteger") (p1 : Fld Z h0 b "java/math/BigInteger" "signum" "I" (.int f)) (p2 : Fld Z h0 b "java/math/BigInteger" "mag" "[I" (.ref u)) (p3 : Arv Z h0 u ku .int 2 [.int y0, .int y1] (.int 0)) (p4 : Exa Z h0 u "[I") (hy0 : ¬ (y0 = (0 : Int32))) (hf : f = (1 : Int32) ∨ f = (-1 : Int32)) :
    Py l Z (⟨"java/math/BigInteger", "compareTo", "(Ljava/math/BigInteger;)I"⟩ : MethodName) 1 13 0 0 #[(.ref zero), (.ref b)] h0 [] (fun rv h' => ∃ (r : Int32), rv = some (.int r) ∧ h' = h0 ∧ ((r = (-1 : Int32) ∧ (0 : Int) < (bv2 f y0 y1)) ∨ (r = (0 : Int32) ∧ (0 : Int) = (bv2 f y0 y1)) ∨ (r = (1 : Int32) ∧ (bv2 f y0 y1) < (0 : Int)))) := by
  rcases hf with rfl | rfl
  · refine Ct.py (by0 := y2) (ml := 2) (rt := (some .int)) (rm := ({ frames := 0, cells := 0, slots := 0, locals := 0 } : Room)) ?_ (hq hw 176 rfl) (hq hw 8 rfl)
    refine Ct.mk (a0 := a0) (Ls := #[.val (.ref zero), .val (.ref b)]) (plainFor_of_name pn_java_math_BigInteger) (fun m => by first | (simp [entryFrame, mkF, argsToLocals, Value.category]; done) | rfl) ?_
    intro κ C
    show Go l _ Z _ _ _ κ [] h0 0 #[.val (.ref zero), .val (.ref b)] [] 0 0
    refine od' C 1 d30_0 rfl rfl rfl ?_
    refine og1' ?_
    intro O1 zO1
    refine og' C 4 d30_1 rfl (hq hw 34 rfl) Via.refl (Fld.ext O1 am.2.2.2.2.2.2.2.2.2.2.1) (od' C 5 d30_4 rfl rfl rfl (og' C 8 d30_5 rfl (hq hw 34 rfl) Via.refl p1 (oj' C (pc' := 58) d30_8 (by decide) (by decide) (by decide) (od' C 59 d30_58 rfl rfl rfl ?_))))
    refine og' C 62 d30_59 rfl (hq hw 34 rfl) Via.refl (Fld.ext O1 am.2.2.2.2.2.2.2.2.2.2.1) (od' C 63 d30_62 rfl rfl rfl (og' C 66 d30_63 rfl (hq hw 34 rfl) Via.refl p1 (oj' C (pc' := 73) d30_66 (by decide) (by decide) (by decide) (oe' C 74 (-1 : Int32) d30_73 rfl (by decide) ?_))))
    refine op' C d30_74 rfl (by decide) (by decide) ?_
    exact ⟨(-1 : Int32), rfl, rfl, (Or.inl ⟨rfl, by have e1 := toI1; have e2 := toIm1; have := uN_lt y0; have := uN_lt y1; have := uN_ne hy0;  (try simp only [bv1, bv2, e1, e2]) <;> omega⟩)⟩
  · refine Ct.py (by0 := y2) (ml := 2) (rt := (some .int)) (rm := ({ frames := 0, cells := 0, slots := 0, locals := 0 } : Room)) ?_ (hq hw 176 rfl) (hq hw 8 rfl)
    refine Ct.mk (a0 := a0) (Ls := #[.val (.ref zero), .val (.ref b)]) (plainFor_of_name pn_java_math_BigInteger) (fun m => by first | (simp [entryFrame, mkF, argsToLocals, Value.category]; done) | rfl) ?_
    intro κ C
    show Go l _ Z _ _ _ κ [] h0 0 #[.val (.ref zero), .val (.ref b)] [] 0 0
    refine od' C 1 d30_0 rfl rfl rfl ?_
    refine og1' ?_
    intro O1 zO1
    refine og' C 4 d30_1 rfl (hq hw 34 rfl) Via.refl (Fld.ext O1 am.2.2.2.2.2.2.2.2.2.2.1) (od' C 5 d30_4 rfl rfl rfl (og' C 8 d30_5 rfl (hq hw 34 rfl) Via.refl p1 (oj' C (pc' := 58) d30_8 (by decide) (by decide) (by decide) (od' C 59 d30_58 rfl rfl rfl ?_))))
    refine og' C 62 d30_59 rfl (hq hw 34 rfl) Via.refl (Fld.ext O1 am.2.2.2.2.2.2.2.2.2.2.1) (od' C 63 d30_62 rfl rfl rfl (og' C 66 d30_63 rfl (hq hw 34 rfl) Via.refl p1 (ol' C 69 d30_66 rfl (by decide) (oe' C 70 (1 : Int32) d30_69 rfl (by decide) ?_))))
    refine os' C (pc' := 74) d30_70 (by decide) (by decide) (op' C d30_74 rfl (by decide) (by decide) ?_)
    exact ⟨(1 : Int32), rfl, rfl, (Or.inr (Or.inr ⟨rfl, by have e1 := toI1; have e2 := toIm1; have := uN_lt y0; have := uN_lt y1; have := uN_ne hy0;  (try simp only [bv1, bv2, e1, e2]) <;> omega⟩))⟩
theorem ct_bc10 (l : Launch) (Z : State) (a0 : Array Value) (hw : HW a0 Z) {one t1 zero t0 pos neg : Addr} {k1 k0 kp kn : ClassId} {pvs nvs : List Value} (am : Amb Z a0 one t1 zero t0 pos neg k1 k0 kp kn pvs nvs) {a t : Addr} {kt : ClassId} {x0 g : Int32} {h0 : Heap} (p0 : Exa Z h0 a "java/math/BigInteger") (p1 : Fld Z h0 a "java/math/BigInteger" "signum" "I" (.int g)) (p2 : Fld Z h0 a "java/math/BigInteger" "mag" "[I" (.ref t)) (p3 : Arv Z h0 t kt .int 1 [.int x0] (.int 0)) (p4 : Exa Z h0 t "[I") (hx0 : ¬ (x0 = (0 : Int32))) (hg : g = (1 : Int32) ∨ g = (-1 : Int32)) :
    Py l Z (⟨"java/math/BigInteger", "compareTo", "(Ljava/math/BigInteger;)I"⟩ : MethodName) 1 13 0 0 #[(.ref a), (.ref zero)] h0 [] (fun rv h' => ∃ (r : Int32), rv = some (.int r) ∧ h' = h0 ∧ ((r = (-1 : Int32) ∧ (bv1 g x0) < (0 : Int)) ∨ (r = (0 : Int32) ∧ (bv1 g x0) = (0 : Int)) ∨ (r = (1 : Int32) ∧ (0 : Int) < (bv1 g x0)))) := by
  rcases hg with rfl | rfl
  · refine Ct.py (by0 := y2) (ml := 2) (rt := (some .int)) (rm := ({ frames := 0, cells := 0, slots := 0, locals := 0 } : Room)) ?_ (hq hw 176 rfl) (hq hw 8 rfl)
    refine Ct.mk (a0 := a0) (Ls := #[.val (.ref a), .val (.ref zero)]) (plainFor_of_name pn_java_math_BigInteger) (fun m => by first | (simp [entryFrame, mkF, argsToLocals, Value.category]; done) | rfl) ?_
    intro κ C
    show Go l _ Z _ _ _ κ [] h0 0 #[.val (.ref a), .val (.ref zero)] [] 0 0
    refine od' C 1 d30_0 rfl rfl rfl (og' C 4 d30_1 rfl (hq hw 34 rfl) Via.refl p1 (od' C 5 d30_4 rfl rfl rfl ?_))
    refine og1' ?_
    intro O1 zO1
    refine og' C 8 d30_5 rfl (hq hw 34 rfl) Via.refl (Fld.ext O1 am.2.2.2.2.2.2.2.2.2.2.1) (oj' C (pc' := 58) d30_8 (by decide) (by decide) (by decide) (od' C 59 d30_58 rfl rfl rfl (og' C 62 d30_59 rfl (hq hw 34 rfl) Via.refl p1 (od' C 63 d30_62 rfl rfl rfl ?_))))
    refine og' C 66 d30_63 rfl (hq hw 34 rfl) Via.refl (Fld.ext O1 am.2.2.2.2.2.2.2.2.2.2.1) (ol' C 69 d30_66 rfl (by decide) (oe' C 70 (1 : Int32) d30_69 rfl (by decide) (os' C (pc' := 74) d30_70 (by decide) (by decide) (op' C d30_74 rfl (by decide) (by decide) ?_))))
    exact ⟨(1 : Int32), rfl, rfl, (Or.inr (Or.inr ⟨rfl, by have e1 := toI1; have e2 := toIm1; have := uN_lt x0; have := uN_ne hx0;  (try simp only [bv1, bv2, e1, e2]) <;> omega⟩))⟩
  · refine Ct.py (by0 := y2) (ml := 2) (rt := (some .int)) (rm := ({ frames := 0, cells := 0, slots := 0, locals := 0 } : Room)) ?_ (hq hw 176 rfl) (hq hw 8 rfl)
    refine Ct.mk (a0 := a0) (Ls := #[.val (.ref a), .val (.ref zero)]) (plainFor_of_name pn_java_math_BigInteger) (fun m => by first | (simp [entryFrame, mkF, argsToLocals, Value.category]; done) | rfl) ?_
    intro κ C
    show Go l _ Z _ _ _ κ [] h0 0 #[.val (.ref a), .val (.ref zero)] [] 0 0
    refine od' C 1 d30_0 rfl rfl rfl (og' C 4 d30_1 rfl (hq hw 34 rfl) Via.refl p1 (od' C 5 d30_4 rfl rfl rfl ?_))
    refine og1' ?_
    intro O1 zO1
    refine og' C 8 d30_5 rfl (hq hw 34 rfl) Via.refl (Fld.ext O1 am.2.2.2.2.2.2.2.2.2.2.1) (oj' C (pc' := 58) d30_8 (by decide) (by decide) (by decide) (od' C 59 d30_58 rfl rfl rfl (og' C 62 d30_59 rfl (hq hw 34 rfl) Via.refl p1 (od' C 63 d30_62 rfl rfl rfl ?_))))
    refine og' C 66 d30_63 rfl (hq hw 34 rfl) Via.refl (Fld.ext O1 am.2.2.2.2.2.2.2.2.2.2.1) (oj' C (pc' := 73) d30_66 (by decide) (by decide) (by decide) (oe' C 74 (-1 : Int32) d30_73 rfl (by decide) (op' C d30_74 rfl (by decide) (by decide) ?_)))
    exact ⟨(-1 : Int32), rfl, rfl, (Or.inl ⟨rfl, by have e1 := toI1; have e2 := toIm1; have := uN_lt x0; have := uN_ne hx0;  (try simp only [bv1, bv2, e1, e2]) <;> omega⟩)⟩
theorem ct_bc11 (l : Launch) (Z : State) (a0 : Array Value) (hw : HW a0 Z) {one t1 zero t0 pos neg : Addr} {k1 k0 kp kn : ClassId} {pvs nvs : List Value} (am : Amb Z a0 one t1 zero t0 pos neg k1 k0 kp kn pvs nvs) {a t : Addr} {kt : ClassId} {x0 g : Int32} {b u : Addr} {ku : ClassId} {y0 f : Int32} {h0 : Heap} (p0 : Exa Z h0 a "java/math/BigInteger") (p1 : Fld Z h0 a "java/math/BigInteger" "signum" "I" (.int g)) (p2 : Fld Z h0 a "java/math/BigInteger" "mag" "[I" (.ref t)) (p3 : Arv Z h0 t kt .int 1 [.int x0] (.int 0)) (p4 : Exa Z h0 t "[I") (p5 : Exa Z h0 b "java/math/BigInteger") (p6 : Fld Z h0 b "java/math/BigInteger" "signum" "I" (.int f)) (p7 : Fld Z h0 b "java/math/BigInteger" "mag" "[I" (.ref u)) (p8 : Arv Z h0 u ku .int 1 [.int y0] (.int 0)) (p9 : Exa Z h0 u "[I") (hx0 : ¬ (x0 = (0 : Int32))) (hy0 : ¬ (y0 = (0 : Int32))) (hg : g = (1 : Int32) ∨ g = (-1 : Int32)) (hf : f = (1 : Int32) ∨ f = (-1 : Int32)) :
    Py l Z (⟨"java/math/BigInteger", "compareTo", "(Ljava/math/BigInteger;)I"⟩ : MethodName) 2 33 0 0 #[(.ref a), (.ref b)] h0 [] (fun rv h' => ∃ (r : Int32), rv = some (.int r) ∧ h' = h0 ∧ ((r = (-1 : Int32) ∧ (bv1 g x0) < (bv1 f y0)) ∨ (r = (0 : Int32) ∧ (bv1 g x0) = (bv1 f y0)) ∨ (r = (1 : Int32) ∧ (bv1 f y0) < (bv1 g x0)))) := by
  rcases hg with rfl | rfl <;> rcases hf with rfl | rfl
  · refine Ct.py (by0 := y2) (ml := 2) (rt := (some .int)) (rm := ({ frames := 1, cells := 0, slots := 0, locals := 20 } : Room)) ?_ (hq hw 176 rfl) (hq hw 8 rfl)
    refine Ct.mk (a0 := a0) (Ls := #[.val (.ref a), .val (.ref b)]) (plainFor_of_name pn_java_math_BigInteger) (fun m => by first | (simp [entryFrame, mkF, argsToLocals, Value.category]; done) | rfl) ?_
    intro κ C
    show Go l _ Z _ _ _ κ [] h0 0 #[.val (.ref a), .val (.ref b)] [] 0 0
    refine od' C 1 d30_0 rfl rfl rfl (og' C 4 d30_1 rfl (hq hw 34 rfl) Via.refl p1 (od' C 5 d30_4 rfl rfl rfl (og' C 8 d30_5 rfl (hq hw 34 rfl) Via.refl p6 (ol' C 11 d30_8 rfl (by decide) ?_))))
    refine od' C 12 d30_11 rfl rfl rfl (og' C 15 d30_12 rfl (hq hw 34 rfl) Via.refl p1 (ov1' C (pc' := 40) (a := 1) (off := 25) d30_15 (by decide) (by decide) (by decide) (by decide) (od' C 41 d30_40 rfl rfl rfl (od' C 42 d30_41 rfl rfl rfl ?_))))
    refine oq' C (a := a) (argsL := [(.ref b)]) (W := 0) d30_42 (hq hw 177 rfl) (hq hw 178 rfl) (nfS (hq hw 180 rfl)) (hq hw 180 rfl) (hq hw 179 rfl) p0 (by decide) pd__Ljava_math_BigInteger__I (ct_cm11 l Z a0 hw am (a := a) (b := b) (t := t) (u := u) (kt := kt) (ku := ku) (x0 := x0) (y0 := y0) (g := (1 : Int32)) (f := (1 : Int32)) p0 p1 p2 p3 p4 p5 p6 p7 p8 p9) rfl (Nat.le_of_eq rfl) rfl (by decide) mems0 ?_
    intro fv1 ph2 K3 fq4
    obtain ⟨r5, rfl, rfl, fx6⟩ := fq4
    refine ⟨[], fresh0, ?_⟩
    show Go l _ Z _ _ _ κ _ _ 45 _ [.int r5] 0 0
    refine os' C (pc' := 57) d30_45 (by decide) (by decide) (op' C d30_57 rfl (by decide) (by decide) ?_)
    exact ⟨r5, rfl, rfl, (by rcases fx6 with ⟨q, z⟩ | ⟨q, z⟩ | ⟨q, z⟩; exact Or.inl ⟨q, by have e1 := toI1; have e2 := toIm1; have := uN_lt x0; have := uN_lt y0; have := uN_ne hx0; have := uN_ne hy0;  (try simp only [bv1, bv2, e1, e2]) <;> omega⟩; exact Or.inr (Or.inl ⟨q, by have e1 := toI1; have e2 := toIm1; have := uN_lt x0; have := uN_lt y0; have := uN_ne hx0; have := uN_ne hy0;  (try simp only [bv1, bv2, e1, e2]) <;> omega⟩); exact Or.inr (Or.inr ⟨q, by have e1 := toI1; have e2 := toIm1; have := uN_lt x0; have := uN_lt y0; have := uN_ne hx0; have := uN_ne hy0;  (try simp only [bv1, bv2, e1, e2]) <;> omega⟩))⟩
  · refine Ct.py (by0 := y2) (ml := 2) (rt := (some .int)) (rm := ({ frames := 1, cells := 0, slots := 0, locals := 20 } : Room)) ?_ (hq hw 176 rfl) (hq hw 8 rfl)
    refine Ct.mk (a0 := a0) (Ls := #[.val (.ref a), .val (.ref b)]) (plainFor_of_name pn_java_math_BigInteger) (fun m => by first | (simp [entryFrame, mkF, argsToLocals, Value.category]; done) | rfl) ?_
    intro κ C
    show Go l _ Z _ _ _ κ [] h0 0 #[.val (.ref a), .val (.ref b)] [] 0 0
    refine od' C 1 d30_0 rfl rfl rfl (og' C 4 d30_1 rfl (hq hw 34 rfl) Via.refl p1 (od' C 5 d30_4 rfl rfl rfl (og' C 8 d30_5 rfl (hq hw 34 rfl) Via.refl p6 (oj' C (pc' := 58) d30_8 (by decide) (by decide) (by decide) ?_))))
    refine od' C 59 d30_58 rfl rfl rfl (og' C 62 d30_59 rfl (hq hw 34 rfl) Via.refl p1 (od' C 63 d30_62 rfl rfl rfl (og' C 66 d30_63 rfl (hq hw 34 rfl) Via.refl p6 (ol' C 69 d30_66 rfl (by decide) ?_))))
    refine oe' C 70 (1 : Int32) d30_69 rfl (by decide) (os' C (pc' := 74) d30_70 (by decide) (by decide) (op' C d30_74 rfl (by decide) (by decide) ?_))
    exact ⟨(1 : Int32), rfl, rfl, (Or.inr (Or.inr ⟨rfl, by have e1 := toI1; have e2 := toIm1; have := uN_lt x0; have := uN_lt y0; have := uN_ne hx0; have := uN_ne hy0;  (try simp only [bv1, bv2, e1, e2]) <;> omega⟩))⟩
  · refine Ct.py (by0 := y2) (ml := 2) (rt := (some .int)) (rm := ({ frames := 1, cells := 0, slots := 0, locals := 20 } : Room)) ?_ (hq hw 176 rfl) (hq hw 8 rfl)
    refine Ct.mk (a0 := a0) (Ls := #[.val (.ref a), .val (.ref b)]) (plainFor_of_name pn_java_math_BigInteger) (fun m => by first | (simp [entryFrame, mkF, argsToLocals, Value.category]; done) | rfl) ?_
    intro κ C
    show Go l _ Z _ _ _ κ [] h0 0 #[.val (.ref a), .val (.ref b)] [] 0 0
    refine od' C 1 d30_0 rfl rfl rfl (og' C 4 d30_1 rfl (hq hw 34 rfl) Via.refl p1 (od' C 5 d30_4 rfl rfl rfl (og' C 8 d30_5 rfl (hq hw 34 rfl) Via.refl p6 (oj' C (pc' := 58) d30_8 (by decide) (by decide) (by decide) ?_))))
    refine od' C 59 d30_58 rfl rfl rfl (og' C 62 d30_59 rfl (hq hw 34 rfl) Via.refl p1 (od' C 63 d30_62 rfl rfl rfl (og' C 66 d30_63 rfl (hq hw 34 rfl) Via.refl p6 (oj' C (pc' := 73) d30_66 (by decide) (by decide) (by decide) ?_))))
    refine oe' C 74 (-1 : Int32) d30_73 rfl (by decide) (op' C d30_74 rfl (by decide) (by decide) ?_)
    exact ⟨(-1 : Int32), rfl, rfl, (Or.inl ⟨rfl, by have e1 := toI1; have e2 := toIm1; have := uN_lt x0; have := uN_lt y0; have := uN_ne hx0; have := uN_ne hy0;  (try simp only [bv1, bv2, e1, e2]) <;> omega⟩)⟩
  · refine Ct.py (by0 := y2) (ml := 2) (rt := (some .int)) (rm := ({ frames := 1, cells := 0, slots := 0, locals := 20 } : Room)) ?_ (hq hw 176 rfl) (hq hw 8 rfl)
    refine Ct.mk (a0 := a0) (Ls := #[.val (.ref a), .val (.ref b)]) (plainFor_of_name pn_java_math_BigInteger) (fun m => by first | (simp [entryFrame, mkF, argsToLocals, Value.category]; done) | rfl) ?_
    intro κ C
    show Go l _ Z _ _ _ κ [] h0 0 #[.val (.ref a), .val (.ref b)] [] 0 0
    refine od' C 1 d30_0 rfl rfl rfl (og' C 4 d30_1 rfl (hq hw 34 rfl) Via.refl p1 (od' C 5 d30_4 rfl rfl rfl (og' C 8 d30_5 rfl (hq hw 34 rfl) Via.refl p6 (ol' C 11 d30_8 rfl (by decide) ?_))))
    refine od' C 12 d30_11 rfl rfl rfl (og' C 15 d30_12 rfl (hq hw 34 rfl) Via.refl p1 (ov1' C (pc' := 48) (a := (-1)) (off := 33) d30_15 (by decide) (by decide) (by decide) (by decide) (od' C 49 d30_48 rfl rfl rfl (od' C 50 d30_49 rfl rfl rfl ?_))))
    refine oq' C (a := b) (argsL := [(.ref a)]) (W := 0) d30_50 (hq hw 177 rfl) (hq hw 178 rfl) (nfS (hq hw 180 rfl)) (hq hw 180 rfl) (hq hw 179 rfl) p5 (by decide) pd__Ljava_math_BigInteger__I (ct_cm11 l Z a0 hw am (a := b) (b := a) (t := u) (u := t) (kt := ku) (ku := kt) (x0 := y0) (y0 := x0) (g := (-1 : Int32)) (f := (-1 : Int32)) p5 p6 p7 p8 p9 p0 p1 p2 p3 p4) rfl (Nat.le_of_eq rfl) rfl (by decide) mems0 ?_
    intro fv1 ph2 K3 fq4
    obtain ⟨r5, rfl, rfl, fx6⟩ := fq4
    refine ⟨[], fresh0, ?_⟩
    show Go l _ Z _ _ _ κ _ _ 53 _ [.int r5] 0 0
    refine os' C (pc' := 57) d30_53 (by decide) (by decide) (op' C d30_57 rfl (by decide) (by decide) ?_)
    exact ⟨r5, rfl, rfl, (by rcases fx6 with ⟨q, z⟩ | ⟨q, z⟩ | ⟨q, z⟩; exact Or.inl ⟨q, by have e1 := toI1; have e2 := toIm1; have := uN_lt x0; have := uN_lt y0; have := uN_ne hx0; have := uN_ne hy0;  (try simp only [bv1, bv2, e1, e2]) <;> omega⟩; exact Or.inr (Or.inl ⟨q, by have e1 := toI1; have e2 := toIm1; have := uN_lt x0; have := uN_lt y0; have := uN_ne hx0; have := uN_ne hy0;  (try simp only [bv1, bv2, e1, e2]) <;> omega⟩); exact Or.inr (Or.inr ⟨q, by have e1 := toI1; have e2 := toIm1; have := uN_lt x0; have := uN_lt y0; have := uN_ne hx0; have := uN_ne hy0;  (try simp only [bv1, bv2, e1, e2]) <;> omega⟩))⟩
theorem ct_bc12 (l : Launch) (Z : State) (a0 : Array Value) (hw : HW a0 Z) {one t1 zero t0 pos neg : Addr} {k1 k0 kp kn : ClassId} {pvs nvs : List Value} (am : Amb Z a0 one t1 zero t0 pos neg k1 k0 kp kn pvs nvs) {a t : Addr} {kt : ClassId} {x0 g : Int32} {b u : Addr} {ku : ClassId} {y0 y1 f : Int32} {h0 : Heap} (p0 : Exa Z h0 a "java/math/BigInteger") (p1 : Fld Z h0 a "java/math/BigInteger" "signum" "I" (.int g)) (p2 : Fld Z h0 a "java/math/BigInteger" "mag" "[I" (.ref t)) (p3 : Arv Z h0 t kt .int 1 [.int x0] (.int 0)) (p4 : Exa Z h0 t "[I") (p5 : Exa Z h0 b "java/math/BigInteger") (p6 : Fld Z h0 b "java/math/BigInteger" "signum" "I" (.int f)) (p7 : Fld Z h0 b "java/math/BigInteger" "mag" "[I" (.ref u)) (p8 : Arv Z h0 u ku .int 2 [.int y0, .int y1] (.int 0)) (p9 : Exa Z h0 u "[I") (hx0 : ¬ (x0 = (0 : Int32))) (hy0 : ¬ (y0 = (0 : Int32))) (hg : g = (1 : Int32) ∨ g = (-1 : Int32)) (hf : f = (1 : Int32) ∨ f = (-1 : Int32)) :
    Py l Z (⟨"java/math/BigInteger", "compareTo", "(Ljava/math/BigInteger;)I"⟩ : MethodName) 2 33 0 0 #[(.ref a), (.ref b)] h0 [] (fun rv h' => ∃ (r : Int32), rv = some (.int r) ∧ h' = h0 ∧ ((r = (-1 : Int32) ∧ (bv1 g x0) < (bv2 f y0 y1)) ∨ (r = (0 : Int32) ∧ (bv1 g x0) = (bv2 f y0 y1)) ∨ (r = (1 : Int32) ∧ (bv2 f y0 y1) < (bv1 g x0)))) := by
  rcases hg with rfl | rfl <;> rcases hf with rfl | rfl
  · refine Ct.py (by0 := y2) (ml := 2) (rt := (some .int)) (rm := ({ frames := 1, cells := 0, slots := 0, locals := 20 } : Room)) ?_ (hq hw 176 rfl) (hq hw 8 rfl)
    refine Ct.mk (a0 := a0) (Ls := #[.val (.ref a), .val (.ref b)]) (plainFor_of_name pn_java_math_BigInteger) (fun m => by first | (simp [entryFrame, mkF, argsToLocals, Value.category]; done) | rfl) ?_
    intro κ C
    show Go l _ Z _ _ _ κ [] h0 0 #[.val (.ref a), .val (.ref b)] [] 0 0
    refine od' C 1 d30_0 rfl rfl rfl (og' C 4 d30_1 rfl (hq hw 34 rfl) Via.refl p1 (od' C 5 d30_4 rfl rfl rfl (og' C 8 d30_5 rfl (hq hw 34 rfl) Via.refl p6 (ol' C 11 d30_8 rfl (by decide) ?_))))
    refine od' C 12 d30_11 rfl rfl rfl (og' C 15 d30_12 rfl (hq hw 34 rfl) Via.refl p1 (ov1' C (pc' := 40) (a := 1) (off := 25) d30_15 (by decide) (by decide) (by decide) (by decide) (od' C 41 d30_40 rfl rfl rfl (od' C 42 d30_41 rfl rfl rfl ?_))))
    refine oq' C (a := a) (argsL := [(.ref b)]) (W := 0) d30_42 (hq hw 177 rfl) (hq hw 178 rfl) (nfS (hq hw 180 rfl)) (hq hw 180 rfl) (hq hw 179 rfl) p0 (by decide) pd__Ljava_math_BigInteger__I (ct_cm12 l Z a0 hw am (a := a) (b := b) (t := t) (u := u) (kt := kt) (ku := ku) (x0 := x0) (y0 := y0) (y1 := y1) (g := (1 : Int32)) (f := (1 : Int32)) p0 p1 p2 p3 p4 p5 p6 p7 p8 p9 hy0) rfl (Nat.le_of_eq rfl) rfl (by decide) mems0 ?_
    intro fv1 ph2 K3 fq4
    obtain ⟨r5, rfl, rfl, fx6⟩ := fq4
    refine ⟨[], fresh0, ?_⟩
    show Go l _ Z _ _ _ κ _ _ 45 _ [.int r5] 0 0
    refine os' C (pc' := 57) d30_45 (by decide) (by decide) (op' C d30_57 rfl (by decide) (by decide) ?_)
    exact ⟨r5, rfl, rfl, (by rcases fx6 with ⟨q, z⟩ | ⟨q, z⟩ | ⟨q, z⟩; exact Or.inl ⟨q, by have e1 := toI1; have e2 := toIm1; have := uN_lt x0; have := uN_lt y0; have := uN_lt y1; have := uN_ne hx0; have := uN_ne hy0;  (try simp only [bv1, bv2, e1, e2]) <;> omega⟩; exact Or.inr (Or.inl ⟨q, by have e1 := toI1; have e2 := toIm1; have := uN_lt x0; have := uN_lt y0; have := uN_lt y1; have := uN_ne hx0; have := uN_ne hy0;  (try simp only [bv1, bv2, e1, e2]) <;> omega⟩); exact Or.inr (Or.inr ⟨q, by have e1 := toI1; have e2 := toIm1; have := uN_lt x0; have := uN_lt y0; have := uN_lt y1; have := uN_ne hx0; have := uN_ne hy0;  (try simp only [bv1, bv2, e1, e2]) <;> omega⟩))⟩
  · refine Ct.py (by0 := y2) (ml := 2) (rt := (some .int)) (rm := ({ frames := 1, cells := 0, slots := 0, locals := 20 } : Room)) ?_ (hq hw 176 rfl) (hq hw 8 rfl)
    refine Ct.mk (a0 := a0) (Ls := #[.val (.ref a), .val (.ref b)]) (plainFor_of_name pn_java_math_BigInteger) (fun m => by first | (simp [entryFrame, mkF, argsToLocals, Value.category]; done) | rfl) ?_
    intro κ C
    show Go l _ Z _ _ _ κ [] h0 0 #[.val (.ref a), .val (.ref b)] [] 0 0
    refine od' C 1 d30_0 rfl rfl rfl (og' C 4 d30_1 rfl (hq hw 34 rfl) Via.refl p1 (od' C 5 d30_4 rfl rfl rfl (og' C 8 d30_5 rfl (hq hw 34 rfl) Via.refl p6 (oj' C (pc' := 58) d30_8 (by decide) (by decide) (by decide) ?_))))
    refine od' C 59 d30_58 rfl rfl rfl (og' C 62 d30_59 rfl (hq hw 34 rfl) Via.refl p1 (od' C 63 d30_62 rfl rfl rfl (og' C 66 d30_63 rfl (hq hw 34 rfl) Via.refl p6 (ol' C 69 d30_66 rfl (by decide) ?_))))
    refine oe' C 70 (1 : Int32) d30_69 rfl (by decide) (os' C (pc' := 74) d30_70 (by decide) (by decide) (op' C d30_74 rfl (by decide) (by decide) ?_))
    exact ⟨(1 : Int32), rfl, rfl, (Or.inr (Or.inr ⟨rfl, by have e1 := toI1; have e2 := toIm1; have := uN_lt x0; have := uN_lt y0; have := uN_lt y1; have := uN_ne hx0; have := uN_ne hy0;  (try simp only [bv1, bv2, e1, e2]) <;> omega⟩))⟩
  · refine Ct.py (by0 := y2) (ml := 2) (rt := (some .int)) (rm := ({ frames := 1, cells := 0, slots := 0, locals := 20 } : Room)) ?_ (hq hw 176 rfl) (hq hw 8 rfl)
    refine Ct.mk (a0 := a0) (Ls := #[.val (.ref a), .val (.ref b)]) (plainFor_of_name pn_java_math_BigInteger) (fun m => by first | (simp [entryFrame, mkF, argsToLocals, Value.category]; done) | rfl) ?_
    intro κ C
    show Go l _ Z _ _ _ κ [] h0 0 #[.val (.ref a), .val (.ref b)] [] 0 0
    refine od' C 1 d30_0 rfl rfl rfl (og' C 4 d30_1 rfl (hq hw 34 rfl) Via.refl p1 (od' C 5 d30_4 rfl rfl rfl (og' C 8 d30_5 rfl (hq hw 34 rfl) Via.refl p6 (oj' C (pc' := 58) d30_8 (by decide) (by decide) (by decide) ?_))))
    refine od' C 59 d30_58 rfl rfl rfl (og' C 62 d30_59 rfl (hq hw 34 rfl) Via.refl p1 (od' C 63 d30_62 rfl rfl rfl (og' C 66 d30_63 rfl (hq hw 34 rfl) Via.refl p6 (oj' C (pc' := 73) d30_66 (by decide) (by decide) (by decide) ?_))))
    refine oe' C 74 (-1 : Int32) d30_73 rfl (by decide) (op' C d30_74 rfl (by decide) (by decide) ?_)
    exact ⟨(-1 : Int32), rfl, rfl, (Or.inl ⟨rfl, by have e1 := toI1; have e2 := toIm1; have := uN_lt x0; have := uN_lt y0; have := uN_lt y1; have := uN_ne hx0; have := uN_ne hy0;  (try simp only [bv1, bv2, e1, e2]) <;> omega⟩)⟩
  · refine Ct.py (by0 := y2) (ml := 2) (rt := (some .int)) (rm := ({ frames := 1, cells := 0, slots := 0, locals := 20 } : Room)) ?_ (hq hw 176 rfl) (hq hw 8 rfl)
    refine Ct.mk (a0 := a0) (Ls := #[.val (.ref a), .val (.ref b)]) (plainFor_of_name pn_java_math_BigInteger) (fun m => by first | (simp [entryFrame, mkF, argsToLocals, Value.category]; done) | rfl) ?_
    intro κ C
    show Go l _ Z _ _ _ κ [] h0 0 #[.val (.ref a), .val (.ref b)] [] 0 0
    refine od' C 1 d30_0 rfl rfl rfl (og' C 4 d30_1 rfl (hq hw 34 rfl) Via.refl p1 (od' C 5 d30_4 rfl rfl rfl (og' C 8 d30_5 rfl (hq hw 34 rfl) Via.refl p6 (ol' C 11 d30_8 rfl (by decide) ?_))))
    refine od' C 12 d30_11 rfl rfl rfl (og' C 15 d30_12 rfl (hq hw 34 rfl) Via.refl p1 (ov1' C (pc' := 48) (a := (-1)) (off := 33) d30_15 (by decide) (by decide) (by decide) (by decide) (od' C 49 d30_48 rfl rfl rfl (od' C 50 d30_49 rfl rfl rfl ?_))))
    refine oq' C (a := b) (argsL := [(.ref a)]) (W := 0) d30_50 (hq hw 177 rfl) (hq hw 178 rfl) (nfS (hq hw 180 rfl)) (hq hw 180 rfl) (hq hw 179 rfl) p5 (by decide) pd__Ljava_math_BigInteger__I (ct_cm21 l Z a0 hw am (a := b) (b := a) (t := u) (u := t) (kt := ku) (ku := kt) (x0 := y0) (x1 := y1) (y0 := x0) (g := (-1 : Int32)) (f := (-1 : Int32)) p5 p6 p7 p8 p9 p0 p1 p2 p3 p4 hy0) rfl (Nat.le_of_eq rfl) rfl (by decide) mems0 ?_
    intro fv1 ph2 K3 fq4
    obtain ⟨r5, rfl, rfl, fx6⟩ := fq4
    refine ⟨[], fresh0, ?_⟩
    show Go l _ Z _ _ _ κ _ _ 53 _ [.int r5] 0 0
    refine os' C (pc' := 57) d30_53 (by decide) (by decide) (op' C d30_57 rfl (by decide) (by decide) ?_)
    exact ⟨r5, rfl, rfl, (by rcases fx6 with ⟨q, z⟩ | ⟨q, z⟩ | ⟨q, z⟩; exact Or.inl ⟨q, by have e1 := toI1; have e2 := toIm1; have := uN_lt x0; have := uN_lt y0; have := uN_lt y1; have := uN_ne hx0; have := uN_ne hy0;  (try simp only [bv1, bv2, e1, e2]) <;> omega⟩; exact Or.inr (Or.inl ⟨q, by have e1 := toI1; have e2 := toIm1; have := uN_lt x0; have := uN_lt y0; have := uN_lt y1; have := uN_ne hx0; have := uN_ne hy0;  (try simp only [bv1, bv2, e1, e2]) <;> omega⟩); exact Or.inr (Or.inr ⟨q, by have e1 := toI1; have e2 := toIm1; have := uN_lt x0; have := uN_lt y0; have := uN_lt y1; have := uN_ne hx0; have := uN_ne hy0;  (try simp only [bv1, bv2, e1, e2]) <;> omega⟩))⟩
theorem ct_bc20 (l : Launch) (Z : State) (a0 : Array Value) (hw : HW a0 Z) {one t1 zero t0 pos neg : Addr} {k1 k0 kp kn : ClassId} {pvs nvs : List Value} (am : Amb Z a0 one t1 zero t0 pos neg k1 k0 kp kn pvs nvs) {a t : Addr} {kt : ClassId} {x0 x1 g : Int32} {h0 : Heap} (p0 : Exa Z h0 a "java/math/BigInteger") (p1 : Fld Z h0 a "java/math/BigInteger" "signum" "I" (.int g)) (p2 : Fld Z h0 a "java/math/BigInteger" "mag" "[I" (.ref t)) (p3 : Arv Z h0 t kt .int 2 [.int x0, .int x1] (.int 0)) (p4 : Exa Z h0 t "[I") (hx0 : ¬ (x0 = (0 : Int32))) (hg : g = (1 : Int32) ∨ g = (-1 : Int32)) :
    Py l Z (⟨"java/math/BigInteger", "compareTo", "(Ljava/math/BigInteger;)I"⟩ : MethodName) 1 13 0 0 #[(.ref a), (.ref zero)] h0 [] (fun rv h' => ∃ (r : Int32), rv = some (.int r) ∧ h' = h0 ∧ ((r = (-1 : Int32) ∧ (bv2 g x0 x1) < (0 : Int)) ∨ (r = (0 : Int32) ∧ (bv2 g x0 x1) = (0 : Int)) ∨ (r = (1 : Int32) ∧ (0 : Int) < (bv2 g x0 x1)))) := by
  rcases hg with rfl | rfl
  · refine Ct.py (by0 := y2) (ml := 2) (rt := (some .int)) (rm := ({ frames := 0, cells := 0, slots := 0, locals := 0 } : Room)) ?_ (hq hw 176 rfl) (hq hw 8 rfl)
    refine Ct.mk (a0 := a0) (Ls := #[.val (.ref a), .val (.ref zero)]) (plainFor_of_name pn_java_math_BigInteger) (fun m => by first | (simp [entryFrame, mkF, argsToLocals, Value.category]; done) | rfl) ?_
    intro κ C
    show Go l _ Z _ _ _ κ [] h0 0 #[.val (.ref a), .val (.ref zero)] [] 0 0
    refine od' C 1 d30_0 rfl rfl rfl (og' C 4 d30_1 rfl (hq hw 34 rfl) Via.refl p1 (od' C 5 d30_4 rfl rfl rfl ?_))
    refine og1' ?_
    intro O1 zO1
    refine og' C 8 d30_5 rfl (hq hw 34 rfl) Via.refl (Fld.ext O1 am.2.2.2.2.2.2.2.2.2.2.1) (oj' C (pc' := 58) d30_8 (by decide) (by decide) (by decide) (od' C 59 d30_58 rfl rfl rfl (og' C 62 d30_59 rfl (hq hw 34 rfl) Via.refl p1 (od' C 63 d30_62 rfl rfl rfl ?_))))
    refine og' C 66 d30_63 rfl (hq hw 34 rfl) Via.refl (Fld.ext O1 am.2.2.2.2.2.2.2.2.2.2.1) (ol' C 69 d30_66 rfl (by decide) (oe' C 70 (1 : Int32) d30_69 rfl (by decide) (os' C (pc' := 74) d30_70 (by decide) (by decide) (op' C d30_74 rfl (by decide) (by decide) ?_))))
    exact ⟨(1 : Int32), rfl, rfl, (Or.inr (Or.inr ⟨rfl, by have e1 := toI1; have e2 := toIm1; have := uN_lt x0; have := uN_lt x1; have := uN_ne hx0;  (try simp only [bv1, bv2, e1, e2]) <;> omega⟩))⟩
  · refine Ct.py (by0 := y2) (ml := 2) (rt := (some .int)) (rm := ({ frames := 0, cells := 0, slots := 0, locals := 0 } : Room)) ?_ (hq hw 176 rfl) (hq hw 8 rfl)
    refine Ct.mk (a0 := a0) (Ls := #[.val (.ref a), .val (.ref zero)]) (plainFor_of_name pn_java_math_BigInteger) (fun m => by first | (simp [entryFrame, mkF, argsToLocals, Value.category]; done) | rfl) ?_
    intro κ C
    show Go l _ Z _ _ _ κ [] h0 0 #[.val (.ref a), .val (.ref zero)] [] 0 0
    refine od' C 1 d30_0 rfl rfl rfl (og' C 4 d30_1 rfl (hq hw 34 rfl) Via.refl p1 (od' C 5 d30_4 rfl rfl rfl ?_))
    refine og1' ?_
    intro O1 zO1
    refine og' C 8 d30_5 rfl (hq hw 34 rfl) Via.refl (Fld.ext O1 am.2.2.2.2.2.2.2.2.2.2.1) (oj' C (pc' := 58) d30_8 (by decide) (by decide) (by decide) (od' C 59 d30_58 rfl rfl rfl (og' C 62 d30_59 rfl (hq hw 34 rfl) Via.refl p1 (od' C 63 d30_62 rfl rfl rfl ?_))))
    refine og' C 66 d30_63 rfl (hq hw 34 rfl) Via.refl (Fld.ext O1 am.2.2.2.2.2.2.2.2.2.2.1) (oj' C (pc' := 73) d30_66 (by decide) (by decide) (by decide) (oe' C 74 (-1 : Int32) d30_73 rfl (by decide) (op' C d30_74 rfl (by decide) (by decide) ?_)))
    exact ⟨(-1 : Int32), rfl, rfl, (Or.inl ⟨rfl, by have e1 := toI1; have e2 := toIm1; have := uN_lt x0; have := uN_lt x1; have := uN_ne hx0;  (try simp only [bv1, bv2, e1, e2]) <;> omega⟩)⟩
theorem ct_bc21 (l : Launch) (Z : State) (a0 : Array Value) (hw : HW a0 Z) {one t1 zero t0 pos neg : Addr} {k1 k0 kp kn : ClassId} {pvs nvs : List Value} (am : Amb Z a0 one t1 zero t0 pos neg k1 k0 kp kn pvs nvs) {a t : Addr} {kt : ClassId} {x0 x1 g : Int32} {b u : Addr} {ku : ClassId} {y0 f : Int32} {h0 : Heap} (p0 : Exa Z h0 a "java/math/BigInteger") (p1 : Fld Z h0 a "java/math/BigInteger" "signum" "I" (.int g)) (p2 : Fld Z h0 a "java/math/BigInteger" "mag" "[I" (.ref t)) (p3 : Arv Z h0 t kt .int 2 [.int x0, .int x1] (.int 0)) (p4 : Exa Z h0 t "[I") (p5 : Exa Z h0 b "java/math/BigInteger") (p6 : Fld Z h0 b "java/math/BigInteger" "signum" "I" (.int f)) (p7 : Fld Z h0 b "java/math/BigInteger" "mag" "[I" (.ref u)) (p8 : Arv Z h0 u ku .int 1 [.int y0] (.int 0)) (p9 : Exa Z h0 u "[I") (hx0 : ¬ (x0 = (0 : Int32))) (hy0 : ¬ (y0 = (0 : Int32))) (hg : g = (1 : Int32) ∨ g = (-1 : Int32)) (hf : f = (1 : Int32) ∨ f = (-1 : Int32)) :
    Py l Z (⟨"java/math/BigInteger", "compareTo", "(Ljava/math/BigInteger;)I"⟩ : MethodName) 2 33 0 0 #[(.ref a), (.ref b)] h0 [] (fun rv h' => ∃ (r : Int32), rv = some (.int r) ∧ h' = h0 ∧ ((r = (-1 : Int32) ∧ (bv2 g x0 x1) < (bv1 f y0)) ∨ (r = (0 : Int32) ∧ (bv2 g x0 x1) = (bv1 f y0)) ∨ (r = (1 : Int32) ∧ (bv1 f y0) < (bv2 g x0 x1)))) := by
  rcases hg with rfl | rfl <;> rcases hf with rfl | rfl
  · refine Ct.py (by0 := y2) (ml := 2) (rt := (some .int)) (rm := ({ frames := 1, cells := 0, slots := 0, locals := 20 } : Room)) ?_ (hq hw 176 rfl) (hq hw 8 rfl)
    refine Ct.mk (a0 := a0) (Ls := #[.val (.ref a), .val (.ref b)]) (plainFor_of_name pn_java_math_BigInteger) (fun m => by first | (simp [entryFrame, mkF, argsToLocals, Value.category]; done) | rfl) ?_
    intro κ C
    show Go l _ Z _ _ _ κ [] h0 0 #[.val (.ref a), .val (.ref b)] [] 0 0
    refine od' C 1 d30_0 rfl rfl rfl (og' C 4 d30_1 rfl (hq hw 34 rfl) Via.refl p1 (od' C 5 d30_4 rfl rfl rfl (og' C 8 d30_5 rfl (hq hw 34 rfl) Via.refl p6 (ol' C 11 d30_8 rfl (by decide) ?_))))
    refine od' C 12 d30_11 rfl rfl rfl (og' C 15 d30_12 rfl (hq hw 34 rfl) Via.refl p1 (ov1' C (pc' := 40) (a := 1) (off := 25) d30_15 (by decide) (by decide) (by decide) (by decide) (od' C 41 d30_40 rfl rfl rfl (od' C 42 d30_41 rfl rfl rfl ?_))))
    refine oq' C (a := a) (argsL := [(.ref b)]) (W := 0) d30_42 (hq hw 177 rfl) (hq hw 178 rfl) (nfS (hq hw 180 rfl)) (hq hw 180 rfl) (hq hw 179 rfl) p0 (by decide) pd__Ljava_math_BigInteger__I (ct_cm21 l Z a0 hw am (a := a) (b := b) (t := t) (u := u) (kt := kt) (ku := ku) (x0 := x0) (x1 := x1) (y0 := y0) (g := (1 : Int32)) (f := (1 : Int32)) p0 p1 p2 p3 p4 p5 p6 p7 p8 p9 hx0) rfl (Nat.le_of_eq rfl) rfl (by decide) mems0 ?_
    intro fv1 ph2 K3 fq4
    obtain ⟨r5, rfl, rfl, fx6⟩ := fq4
    refine ⟨[], fresh0, ?_⟩
    show Go l _ Z _ _ _ κ _ _ 45 _ [.int r5] 0 0
    refine os' C (pc' := 57) d30_45 (by decide) (by decide) (op' C d30_57 rfl (by decide) (by decide) ?_)
    exact ⟨r5, rfl, rfl, (by rcases fx6 with ⟨q, z⟩ | ⟨q, z⟩ | ⟨q, z⟩; exact Or.inl ⟨q, by have e1 := toI1; have e2 := toIm1; have := uN_lt x0; have := uN_lt x1; have := uN_lt y0; have := uN_ne hx0; have := uN_ne hy0;  (try simp only [bv1, bv2, e1, e2]) <;> omega⟩; exact Or.inr (Or.inl ⟨q, by have e1 := toI1; have e2 := toIm1; have := uN_lt x0; have := uN_lt x1; have := uN_lt y0; have := uN_ne hx0; have := uN_ne hy0;  (try simp only [bv1, bv2, e1, e2]) <;> omega⟩); exact Or.inr (Or.inr ⟨q, by have e1 := toI1; have e2 := toIm1; have := uN_lt x0; have := uN_lt x1; have := uN_lt y0; have := uN_ne hx0; have := uN_ne hy0;  (try simp only [bv1, bv2, e1, e2]) <;> omega⟩))⟩
  · refine Ct.py (by0 := y2) (ml := 2) (rt := (some .int)) (rm := ({ frames := 1, cells := 0, slots := 0, locals := 20 } : Room)) ?_ (hq hw 176 rfl) (hq hw 8 rfl)
    refine Ct.mk (a0 := a0) (Ls := #[.val (.ref a), .val (.ref b)]) (plainFor_of_name pn_java_math_BigInteger) (fun m => by first | (simp [entryFrame, mkF, argsToLocals, Value.category]; done) | rfl) ?_
    intro κ C
    show Go l _ Z _ _ _ κ [] h0 0 #[.val (.ref a), .val (.ref b)] [] 0 0
    refine od' C 1 d30_0 rfl rfl rfl (og' C 4 d30_1 rfl (hq hw 34 rfl) Via.refl p1 (od' C 5 d30_4 rfl rfl rfl (og' C 8 d30_5 rfl (hq hw 34 rfl) Via.refl p6 (oj' C (pc' := 58) d30_8 (by decide) (by decide) (by decide) ?_))))
    refine od' C 59 d30_58 rfl rfl rfl (og' C 62 d30_59 rfl (hq hw 34 rfl) Via.refl p1 (od' C 63 d30_62 rfl rfl rfl (og' C 66 d30_63 rfl (hq hw 34 rfl) Via.refl p6 (ol' C 69 d30_66 rfl (by decide) ?_))))
    refine oe' C 70 (1 : Int32) d30_69 rfl (by decide) (os' C (pc' := 74) d30_70 (by decide) (by decide) (op' C d30_74 rfl (by decide) (by decide) ?_))
    exact ⟨(1 : Int32), rfl, rfl, (Or.inr (Or.inr ⟨rfl, by have e1 := toI1; have e2 := toIm1; have := uN_lt x0; have := uN_lt x1; have := uN_lt y0; have := uN_ne hx0; have := uN_ne hy0;  (try simp only [bv1, bv2, e1, e2]) <;> omega⟩))⟩
  · refine Ct.py (by0 := y2) (ml := 2) (rt := (some .int)) (rm := ({ frames := 1, cells := 0, slots := 0, locals := 20 } : Room)) ?_ (hq hw 176 rfl) (hq hw 8 rfl)
    refine Ct.mk (a0 := a0) (Ls := #[.val (.ref a), .val (.ref b)]) (plainFor_of_name pn_java_math_BigInteger) (fun m => by first | (simp [entryFrame, mkF, argsToLocals, Value.category]; done) | rfl) ?_
    intro κ C
    show Go l _ Z _ _ _ κ [] h0 0 #[.val (.ref a), .val (.ref b)] [] 0 0
    refine od' C 1 d30_0 rfl rfl rfl (og' C 4 d30_1 rfl (hq hw 34 rfl) Via.refl p1 (od' C 5 d30_4 rfl rfl rfl (og' C 8 d30_5 rfl (hq hw 34 rfl) Via.refl p6 (oj' C (pc' := 58) d30_8 (by decide) (by decide) (by decide) ?_))))
    refine od' C 59 d30_58 rfl rfl rfl (og' C 62 d30_59 rfl (hq hw 34 rfl) Via.refl p1 (od' C 63 d30_62 rfl rfl rfl (og' C 66 d30_63 rfl (hq hw 34 rfl) Via.refl p6 (oj' C (pc' := 73) d30_66 (by decide) (by decide) (by decide) ?_))))
    refine oe' C 74 (-1 : Int32) d30_73 rfl (by decide) (op' C d30_74 rfl (by decide) (by decide) ?_)
    exact ⟨(-1 : Int32), rfl, rfl, (Or.inl ⟨rfl, by have e1 := toI1; have e2 := toIm1; have := uN_lt x0; have := uN_lt x1; have := uN_lt y0; have := uN_ne hx0; have := uN_ne hy0;  (try simp only [bv1, bv2, e1, e2]) <;> omega⟩)⟩
  · refine Ct.py (by0 := y2) (ml := 2) (rt := (some .int)) (rm := ({ frames := 1, cells := 0, slots := 0, locals := 20 } : Room)) ?_ (hq hw 176 rfl) (hq hw 8 rfl)
    refine Ct.mk (a0 := a0) (Ls := #[.val (.ref a), .val (.ref b)]) (plainFor_of_name pn_java_math_BigInteger) (fun m => by first | (simp [entryFrame, mkF, argsToLocals, Value.category]; done) | rfl) ?_
    intro κ C
    show Go l _ Z _ _ _ κ [] h0 0 #[.val (.ref a), .val (.ref b)] [] 0 0
    refine od' C 1 d30_0 rfl rfl rfl (og' C 4 d30_1 rfl (hq hw 34 rfl) Via.refl p1 (od' C 5 d30_4 rfl rfl rfl (og' C 8 d30_5 rfl (hq hw 34 rfl) Via.refl p6 (ol' C 11 d30_8 rfl (by decide) ?_))))
    refine od' C 12 d30_11 rfl rfl rfl (og' C 15 d30_12 rfl (hq hw 34 rfl) Via.refl p1 (ov1' C (pc' := 48) (a := (-1)) (off := 33) d30_15 (by decide) (by decide) (by decide) (by decide) (od' C 49 d30_48 rfl rfl rfl (od' C 50 d30_49 rfl rfl rfl ?_))))
    refine oq' C (a := b) (argsL := [(.ref a)]) (W := 0) d30_50 (hq hw 177 rfl) (hq hw 178 rfl) (nfS (hq hw 180 rfl)) (hq hw 180 rfl) (hq hw 179 rfl) p5 (by decide) pd__Ljava_math_BigInteger__I (ct_cm12 l Z a0 hw am (a := b) (b := a) (t := u) (u := t) (kt := ku) (ku := kt) (x0 := y0) (y0 := x0) (y1 := x1) (g := (-1 : Int32)) (f := (-1 : Int32)) p5 p6 p7 p8 p9 p0 p1 p2 p3 p4 hx0) rfl (Nat.le_of_eq rfl) rfl (by decide) mems0 ?_
    intro fv1 ph2 K3 fq4
    obtain ⟨r5, rfl, rfl, fx6⟩ := fq4
    refine ⟨[], fresh0, ?_⟩
    show Go l _ Z _ _ _ κ _ _ 53 _ [.int r5] 0 0
    refine os' C (pc' := 57) d30_53 (by decide) (by decide) (op' C d30_57 rfl (by decide) (by decide) ?_)
    exact ⟨r5, rfl, rfl, (by rcases fx6 with ⟨q, z⟩ | ⟨q, z⟩ | ⟨q, z⟩; exact Or.inl ⟨q, by have e1 := toI1; have e2 := toIm1; have := uN_lt x0; have := uN_lt x1; have := uN_lt y0; have := uN_ne hx0; have := uN_ne hy0;  (try simp only [bv1, bv2, e1, e2]) <;> omega⟩; exact Or.inr (Or.inl ⟨q, by have e1 := toI1; have e2 := toIm1; have := uN_lt x0; have := uN_lt x1; have := uN_lt y0; have := uN_ne hx0; have := uN_ne hy0;  (try simp only [bv1, bv2, e1, e2]) <;> omega⟩); exact Or.inr (Or.inr ⟨q, by have e1 := toI1; have e2 := toIm1; have := uN_lt x0; have := uN_lt x1; have := uN_lt y0; have := uN_ne hx0; have := uN_ne hy0;  (try simp only [bv1, bv2, e1, e2]) <;> omega⟩))⟩
theorem ct_bc22 (l : Launch) (Z : State) (a0 : Array Value) (hw : HW a0 Z) {one t1 zero t0 pos neg : Addr} {k1 k0 kp kn : ClassId} {pvs nvs : List Value} (am : Amb Z a0 one t1 zero t0 pos neg k1 k0 kp kn pvs nvs) {a t : Addr} {kt : ClassId} {x0 x1 g : Int32} {b u : Addr} {ku : ClassId} {y0 y1 f : Int32} {h0 : Heap} (p0 : Exa Z h0 a "java/math/BigInteger") (p1 : Fld Z h0 a "java/math/BigInteger" "signum" "I" (.int g)) (p2 : Fld Z h0 a "java/math/BigInteger" "mag" "[I" (.ref t)) (p3 : Arv Z h0 t kt .int 2 [.int x0, .int x1] (.int 0)) (p4 : Exa Z h0 t "[I") (p5 : Exa Z h0 b "java/math/BigInteger") (p6 : Fld Z h0 b "java/math/BigInteger" "signum" "I" (.int f)) (p7 : Fld Z h0 b "java/math/BigInteger" "mag" "[I" (.ref u)) (p8 : Arv Z h0 u ku .int 2 [.int y0, .int y1] (.int 0)) (p9 : Exa Z h0 u "[I") (hx0 : ¬ (x0 = (0 : Int32))) (hy0 : ¬ (y0 = (0 : Int32))) (hg : g = (1 : Int32) ∨ g = (-1 : Int32)) (hf : f = (1 : Int32) ∨ f = (-1 : Int32)) :
    Py l Z (⟨"java/math/BigInteger", "compareTo", "(Ljava/math/BigInteger;)I"⟩ : MethodName) 2 33 0 0 #[(.ref a), (.ref b)] h0 [] (fun rv h' => ∃ (r : Int32), rv = some (.int r) ∧ h' = h0 ∧ ((r = (-1 : Int32) ∧ (bv2 g x0 x1) < (bv2 f y0 y1)) ∨ (r = (0 : Int32) ∧ (bv2 g x0 x1) = (bv2 f y0 y1)) ∨ (r = (1 : Int32) ∧ (bv2 f y0 y1) < (bv2 g x0 x1)))) := by
  rcases hg with rfl | rfl <;> rcases hf with rfl | rfl
  · refine Ct.py (by0 := y2) (ml := 2) (rt := (some .int)) (rm := ({ frames := 1, cells := 0, slots := 0, locals := 20 } : Room)) ?_ (hq hw 176 rfl) (hq hw 8 rfl)
    refine Ct.mk (a0 := a0) (Ls := #[.val (.ref a), .val (.ref b)]) (plainFor_of_name pn_java_math_BigInteger) (fun m => by first | (simp [entryFrame, mkF, argsToLocals, Value.category]; done) | rfl) ?_
    intro κ C
    show Go l _ Z _ _ _ κ [] h0 0 #[.val (.ref a), .val (.ref b)] [] 0 0
    refine od' C 1 d30_0 rfl rfl rfl (og' C 4 d30_1 rfl (hq hw 34 rfl) Via.refl p1 (od' C 5 d30_4 rfl rfl rfl (og' C 8 d30_5 rfl (hq hw 34 rfl) Via.refl p6 (ol' C 11 d30_8 rfl (by decide) ?_))))
    refine od' C 12 d30_11 rfl rfl rfl (og' C 15 d30_12 rfl (hq hw 34 rfl) Via.refl p1 (ov1' C (pc' := 40) (a := 1) (off := 25) d30_15 (by decide) (by decide) (by decide) (by decide) (od' C 41 d30_40 rfl rfl rfl (od' C 42 d30_41 rfl rfl rfl ?_))))
    refine oq' C (a := a) (argsL := [(.ref b)]) (W := 0) d30_42 (hq hw 177 rfl) (hq hw 178 rfl) (nfS (hq hw 180 rfl)) (hq hw 180 rfl) (hq hw 179 rfl) p0 (by decide) pd__Ljava_math_BigInteger__I (ct_cm22 l Z a0 hw am (a := a) (b := b) (t := t) (u := u) (kt := kt) (ku := ku) (x0 := x0) (x1 := x1) (y0 := y0) (y1 := y1) (g := (1 : Int32)) (f := (1 : Int32)) p0 p1 p2 p3 p4 p5 p6 p7 p8 p9 hx0 hy0) rfl (Nat.le_of_eq rfl) rfl (by decide) mems0 ?_
    intro fv1 ph2 K3 fq4
    obtain ⟨r5, rfl, rfl, fx6⟩ := fq4
    refine ⟨[], fresh0, ?_⟩
    show Go l _ Z _ _ _ κ _ _ 45 _ [.int r5] 0 0
    refine os' C (pc' := 57) d30_45 (by decide) (by decide) (op' C d30_57 rfl (by decide) (by decide) ?_)
    exact ⟨r5, rfl, rfl, (by rcases fx6 with ⟨q, z⟩ | ⟨q, z⟩ | ⟨q, z⟩; exact Or.inl ⟨q, by have e1 := toI1; have e2 := toIm1; have := uN_lt x0; have := uN_lt x1; have := uN_lt y0; have := uN_lt y1; have := uN_ne hx0; have := uN_ne hy0;  (try simp only [bv1, bv2, e1, e2]) <;> omega⟩; exact Or.inr (Or.inl ⟨q, by have e1 := toI1; have e2 := toIm1; have := uN_lt x0; have := uN_lt x1; have := uN_lt y0; have := uN_lt y1; have := uN_ne hx0; have := uN_ne hy0;  (try simp only [bv1, bv2, e1, e2]) <;> omega⟩); exact Or.inr (Or.inr ⟨q, by have e1 := toI1; have e2 := toIm1; have := uN_lt x0; have := uN_lt x1; have := uN_lt y0; have := uN_lt y1; have := uN_ne hx0; have := uN_ne hy0;  (try simp only [bv1, bv2, e1, e2]) <;> omega⟩))⟩
  · refine Ct.py (by0 := y2) (ml := 2) (rt := (some .int)) (rm := ({ frames := 1, cells := 0, slots := 0, locals := 20 } : Room)) ?_ (hq hw 176 rfl) (hq hw 8 rfl)
    refine Ct.mk (a0 := a0) (Ls := #[.val (.ref a), .val (.ref b)]) (plainFor_of_name pn_java_math_BigInteger) (fun m => by first | (simp [entryFrame, mkF, argsToLocals, Value.category]; done) | rfl) ?_
    intro κ C
    show Go l _ Z _ _ _ κ [] h0 0 #[.val (.ref a), .val (.ref b)] [] 0 0
    refine od' C 1 d30_0 rfl rfl rfl (og' C 4 d30_1 rfl (hq hw 34 rfl) Via.refl p1 (od' C 5 d30_4 rfl rfl rfl (og' C 8 d30_5 rfl (hq hw 34 rfl) Via.refl p6 (oj' C (pc' := 58) d30_8 (by decide) (by decide) (by decide) ?_))))
    refine od' C 59 d30_58 rfl rfl rfl (og' C 62 d30_59 rfl (hq hw 34 rfl) Via.refl p1 (od' C 63 d30_62 rfl rfl rfl (og' C 66 d30_63 rfl (hq hw 34 rfl) Via.refl p6 (ol' C 69 d30_66 rfl (by decide) ?_))))
    refine oe' C 70 (1 : Int32) d30_69 rfl (by decide) (os' C (pc' := 74) d30_70 (by decide) (by decide) (op' C d30_74 rfl (by decide) (by decide) ?_))
    exact ⟨(1 : Int32), rfl, rfl, (Or.inr (Or.inr ⟨rfl, by have e1 := toI1; have e2 := toIm1; have := uN_lt x0; have := uN_lt x1; have := uN_lt y0; have := uN_lt y1; have := uN_ne hx0; have := uN_ne hy0;  (try simp only [bv1, bv2, e1, e2]) <;> omega⟩))⟩
  · refine Ct.py (by0 := y2) (ml := 2) (rt := (some .int)) (rm := ({ frames := 1, cells := 0, slots := 0, locals := 20 } : Room)) ?_ (hq hw 176 rfl) (hq hw 8 rfl)
    refine Ct.mk (a0 := a0) (Ls := #[.val (.ref a), .val (.ref b)]) (plainFor_of_name pn_java_math_BigInteger) (fun m => by first | (simp [entryFrame, mkF, argsToLocals, Value.category]; done) | rfl) ?_
    intro κ C
    show Go l _ Z _ _ _ κ [] h0 0 #[.val (.ref a), .val (.ref b)] [] 0 0
    refine od' C 1 d30_0 rfl rfl rfl (og' C 4 d30_1 rfl (hq hw 34 rfl) Via.refl p1 (od' C 5 d30_4 rfl rfl rfl (og' C 8 d30_5 rfl (hq hw 34 rfl) Via.refl p6 (oj' C (pc' := 58) d30_8 (by decide) (by decide) (by decide) ?_))))
    refine od' C 59 d30_58 rfl rfl rfl (og' C 62 d30_59 rfl (hq hw 34 rfl) Via.refl p1 (od' C 63 d30_62 rfl rfl rfl (og' C 66 d30_63 rfl (hq hw 34 rfl) Via.refl p6 (oj' C (pc' := 73) d30_66 (by decide) (by decide) (by decide) ?_))))
    refine oe' C 74 (-1 : Int32) d30_73 rfl (by decide) (op' C d30_74 rfl (by decide) (by decide) ?_)
    exact ⟨(-1 : Int32), rfl, rfl, (Or.inl ⟨rfl, by have e1 := toI1; have e2 := toIm1; have := uN_lt x0; have := uN_lt x1; have := uN_lt y0; have := uN_lt y1; have := uN_ne hx0; have := uN_ne hy0;  (try simp only [bv1, bv2, e1, e2]) <;> omega⟩)⟩
  · refine Ct.py (by0 := y2) (ml := 2) (rt := (some .int)) (rm := ({ frames := 1, cells := 0, slots := 0, locals := 20 } : Room)) ?_ (hq hw 176 rfl) (hq hw 8 rfl)
    refine Ct.mk (a0 := a0) (Ls := #[.val (.ref a), .val (.ref b)]) (plainFor_of_name pn_java_math_BigInteger) (fun m => by first | (simp [entryFrame, mkF, argsToLocals, Value.category]; done) | rfl) ?_
    intro κ C
    show Go l _ Z _ _ _ κ [] h0 0 #[.val (.ref a), .val (.ref b)] [] 0 0
    refine od' C 1 d30_0 rfl rfl rfl (og' C 4 d30_1 rfl (hq hw 34 rfl) Via.refl p1 (od' C 5 d30_4 rfl rfl rfl (og' C 8 d30_5 rfl (hq hw 34 rfl) Via.refl p6 (ol' C 11 d30_8 rfl (by decide) ?_))))
    refine od' C 12 d30_11 rfl rfl rfl (og' C 15 d30_12 rfl (hq hw 34 rfl) Via.refl p1 (ov1' C (pc' := 48) (a := (-1)) (off := 33) d30_15 (by decide) (by decide) (by decide) (by decide) (od' C 49 d30_48 rfl rfl rfl (od' C 50 d30_49 rfl rfl rfl ?_))))
    refine oq' C (a := b) (argsL := [(.ref a)]) (W := 0) d30_50 (hq hw 177 rfl) (hq hw 178 rfl) (nfS (hq hw 180 rfl)) (hq hw 180 rfl) (hq hw 179 rfl) p5 (by decide) pd__Ljava_math_BigInteger__I (ct_cm22 l Z a0 hw am (a := b) (b := a) (t := u) (u := t) (kt := ku) (ku := kt) (x0 := y0) (x1 := y1) (y0 := x0) (y1 := x1) (g := (-1 : Int32)) (f := (-1 : Int32)) p5 p6 p7 p8 p9 p0 p1 p2 p3 p4 hy0 hx0) rfl (Nat.le_of_eq rfl) rfl (by decide) mems0 ?_
    intro fv1 ph2 K3 fq4
    obtain ⟨r5, rfl, rfl, fx6⟩ := fq4
    refine ⟨[], fresh0, ?_⟩
    show Go l _ Z _ _ _ κ _ _ 53 _ [.int r5] 0 0
    refine os' C (pc' := 57) d30_53 (by decide) (by decide) (op' C d30_57 rfl (by decide) (by decide) ?_)
    exact ⟨r5, rfl, rfl, (by rcases fx6 with ⟨q, z⟩ | ⟨q, z⟩ | ⟨q, z⟩; exact Or.inl ⟨q, by have e1 := toI1; have e2 := toIm1; have := uN_lt x0; have := uN_lt x1; have := uN_lt y0; have := uN_lt y1; have := uN_ne hx0; have := uN_ne hy0;  (try simp only [bv1, bv2, e1, e2]) <;> omega⟩; exact Or.inr (Or.inl ⟨q, by have e1 := toI1; have e2 := toIm1; have := uN_lt x0; have := uN_lt x1; have := uN_lt y0; have := uN_lt y1; have := uN_ne hx0; have := uN_ne hy0;  (try simp only [bv1, bv2, e1, e2]) <;> omega⟩); exact Or.inr (Or.inr ⟨q, by have e1 := toI1; have e2 := toIm1; have := uN_lt x0; have := uN_lt x1; have := uN_lt y0; have := uN_lt y1; have := uN_ne hx0; have := uN_ne hy0;  (try simp only [bv1, bv2, e1, e2]) <;> omega⟩))⟩
theorem ct_vone (l : Launch) (Z : State) (a0 : Array Value) (hw : HW a0 Z) {one t1 zero t0 pos neg : Addr} {k1 k0 kp kn : ClassId} {pvs nvs : List Value} (am : Amb Z a0 one t1 zero t0 pos neg k1 k0 kp kn pvs nvs) {h0 : Heap} :
    Py l Z (⟨"java/math/BigInteger", "valueOf", "(J)Ljava/math/BigInteger;"⟩ : MethodName) 1 13 0 0 #[(.long (1 : Int64))] h0 [] (fun rv h' => rv = some (.ref one) ∧ h' = h0) := by
  refine Ct.py (by0 := y6) (ml := 2) (rt := (some (.object "java/math/BigInteger"))) (rm := ({ frames := 0, cells := 0, slots := 0, locals := 0 } : Room)) ?_ (hq hw 9 rfl) (hq hw 8 rfl)
  refine Ct.mk (a0 := a0) (Ls := #[.val (.long (1 : Int64)), .second]) (plainFor_of_name pn_java_math_BigInteger) (fun m => by simp [entryFrame, mkF, argsToLocals, Value.category]) ?_
  intro κ C
  show Go l _ Z _ _ _ κ [] h0 0 #[.val (.long (1 : Int64)), .second] [] 0 0
  refine ou' C 1 d2_0 rfl rfl (on1' C 2 (0 : Int64) d2_1 rfl (by decide) (oh1' C 3 (1 : Int32) d2_2 rfl (by decide) (on' C (pc' := 10) d2_3 (by decide) (by decide) (by decide) (ou' C 11 d2_10 rfl rfl ?_))))
  refine on1' C 12 (0 : Int64) d2_11 rfl (by decide) (oh1' C 13 (1 : Int32) d2_12 rfl (by decide) (or' C 16 d2_13 rfl (by decide) (ou' C 17 d2_16 rfl rfl (oq1' C 20 (v := (16 : Int64)) d2_17 rfl (hq hw 10 rfl) ?_))))
  refine oh1' C 21 (-1 : Int32) d2_20 rfl (by decide) (or' C 24 d2_21 rfl (by decide) (ot1' C 27 d2_24 rfl (hq hw 11 rfl) am.2.2.1 (ou' C 28 d2_27 rfl rfl (or1' C 29 (1 : Int32) d2_28 rfl (by decide) ?_))))
  refine og1' ?_
  intro O1 zO1
  refine of2' C 30 (v := (.ref one)) d2_29 rfl (am.2.2.2.2.2.2.2.2.2.2.2.2.2.2.1.ext O1) rfl (by decide) am.2.2.2.2.2.2.2.2.2.2.2.2.2.2.2.2.1 (ob1' C (v := (.ref one)) d2_30 rfl rfl rfl (by decide) (by decide) ?_)
  exact ⟨rfl, rfl⟩
theorem ct_v0 (l : Launch) (Z : State) (a0 : Array Value) (hw : HW a0 Z) {one t1 zero t0 pos neg : Addr} {k1 k0 kp kn : ClassId} {pvs nvs : List Value} (am : Amb Z a0 one t1 zero t0 pos neg k1 k0 kp kn pvs nvs) {v : Int64} {h0 : Heap} (hv : v = (0 : Int64)) :
    Py l Z (⟨"java/math/BigInteger", "valueOf", "(J)Ljava/math/BigInteger;"⟩ : MethodName) 1 13 0 0 #[(.long v)] h0 [] (fun rv h' => rv = some (.ref zero) ∧ h' = h0) := by
  refine Ct.py (by0 := y6) (ml := 2) (rt := (some (.object "java/math/BigInteger"))) (rm := ({ frames := 0, cells := 0, slots := 0, locals := 0 } : Room)) ?_ (hq hw 9 rfl) (hq hw 8 rfl)
  refine Ct.mk (a0 := a0) (Ls := #[.val (.long v), .second]) (plainFor_of_name pn_java_math_BigInteger) (fun m => by simp [entryFrame, mkF, argsToLocals, Value.category]) ?_
  intro κ C
  show Go l _ Z _ _ _ κ [] h0 0 #[.val (.long v), .second] [] 0 0
  refine ou' C 1 d2_0 rfl rfl (on1' C 2 (0 : Int64) d2_1 rfl (by decide) (oh1' C 3 (XT.cmpL v (0 : Int64)) d2_2 rfl rfl (or' C 6 d2_3 rfl (teq ((cmpL_eq.mpr hv) : (XT.cmpL v (0 : Int64)) = (0 : Int32))).2 (ot1' C 9 d2_6 rfl (hq hw 231 rfl) am.2.1 ?_))))
  refine ob1' C (v := (.ref zero)) d2_9 rfl rfl rfl (by decide) (by decide) ?_
  exact ⟨rfl, rfl⟩
theorem ct_bij1 (l : Launch) (Z : State) (a0 : Array Value) (hw : HW a0 Z) {one t1 zero t0 pos neg : Addr} {k1 k0 kp kn : ClassId} {pvs nvs : List Value} (am : Amb Z a0 one t1 zero t0 pos neg k1 k0 kp kn pvs nvs) {a : Addr} {v : Int64} {h0 : Heap} (p0 : Exa Z h0 a "java/math/BigInteger") (p1 : Fld Z h0 a "java/math/BigInteger" "signum" "I" (.int 0)) (p2 : Fld Z h0 a "java/math/BigInteger" "mag" "[I" .null) (hv : ¬ (v = (0 : Int64))) (hh : hiv v = (0 : Int32)) :
    Py l Z (⟨"java/math/BigInteger", "<init>", "(J)V"⟩ : MethodName) 3 39 1 1 #[(.ref a), (.long v)] h0 [a] (fun rv h' => ∃ (t : Addr) (kt : ClassId), rv = none ∧ Exa Z h' a "java/math/BigInteger" ∧ Fld Z h' a "java/math/BigInteger" "signum" "I" (.int (sgv v)) ∧ Fld Z h' a "java/math/BigInteger" "mag" "[I" (.ref t) ∧ Arv Z h' t kt .int 1 [(.int (lov v))] (.int 0) ∧ Exa Z h' t "[I" ∧ (h0.size ≤ t)) := by
  refine Ct.py (by0 := y7) (ml := 4) (rt := none) (rm := ({ frames := 2, cells := 1, slots := 1, locals := 24 } : Room)) ?_ (hq hw 197 rfl) (hq hw 8 rfl)
  refine Ct.mk (a0 := a0) (Ls := #[.val (.ref a), .val (.long v), .second, .unset]) (plainFor_of_name pn_java_math_BigInteger) (fun m => by simp [entryFrame, mkF, argsToLocals, Value.category]) ?_
  intro κ C
  show Go l _ Z _ _ _ κ [a] h0 0 #[.val (.ref a), .val (.long v), .second, .unset] [] 0 0
  refine od' C 1 d34_0 rfl rfl rfl (ol1' C (a := a) (argsL := []) (W := 0) d34_1 rfl (hq hw 124 rfl) (hq hw 125 rfl) (hq hw 129 rfl) (by decide) pd___V (ct_num l Z a0 hw am (a := a)) rfl (Nat.le_of_eq rfl) rfl (by decide) mems0 ?_)
  intro fv1 ph2 K3 fq4
  obtain ⟨rfl, rfl⟩ := fq4
  refine ⟨[], fresh0, ?_⟩
  show Go l _ Z _ _ _ κ _ _ 4 _ [] 0 0
  refine ou' C 5 d34_4 rfl rfl (on1' C 6 (0 : Int64) d34_5 rfl (by decide) (oh1' C 7 (XT.cmpL v (0 : Int64)) d34_6 rfl rfl ?_))
  by_cases hs : (XT.cmpL v (0 : Int64)) < (0 : Int32)
  · skip
    refine or' C 10 d34_7 rfl (tlt hs).2.1 (ou' C 11 d34_10 rfl rfl (og2' C 12 (absL v) d34_11 rfl (absL_m (cmpL_lt.mp hs)) (om2' C 13 (Ls' := #[.val (.ref a), .val (.long (absL v)), .second, .unset]) d34_12 rfl rfl (od' C 14 d34_13 rfl rfl rfl ?_))))
    refine oe' C 15 (sgv v) d34_14 rfl (sgv_m (cmpL_lt.mp hs)) (oi1' C 18 (ty := .int) d34_15 rfl (hq hw 34 rfl) Via.refl p1 p0 (Or.inr ⟨(hq hw 35 rfl), rfl, rfl⟩) (hq hw 114 rfl) (by decide) rfl rfl (mi 0 rfl) ?_)
    intro ph5 W6
    have fx7 : Fld Z ph5 a "java/math/BigInteger" "signum" "I" (.int (sgv v)) := Fld.same W6 p1
    refine os' C (pc' := 26) d34_18 (by decide) (by decide) (ou' C 27 d34_26 rfl rfl (om' C 29 (32 : Int32) d34_27 rfl (by decide) (od2' C 30 (XT.ushrL (absL v) (32 : Int32)) d34_29 rfl rfl (or1' C 31 (hiv v) d34_30 rfl rfl ?_))))
    refine oh' C 32 (Ls' := #[.val (.ref a), .val (.long (absL v)), .second, .val (.int (hiv v))]) d34_31 rfl rfl (ob' C 33 d34_32 rfl rfl (or' C 36 d34_33 rfl (teq (hh : (hiv v) = (0 : Int32))).2 (od' C 37 d34_36 rfl rfl rfl (oe' C 38 (1 : Int32) d34_37 rfl (by decide) ?_))))
    refine oy1' C 40 1 1 (ty := .int) (cap := 1) d34_38 rfl rfl rfl rfl (hq hw 79 rfl) (by decide) (by decide) (by decide) (by decide) (by decide) ?_
    intro b8 ph9 k10 g11 E12 V13 X14
    have fx15 : Arv Z ph9 b8 k10 .int 1 [.int 0] (.int 0) := V13
    have fx16 := (Fld.ext E12 (Fld.other W6 p2 (Or.inr (slot_ne (Or.inr (hq hw 52 rfl)) (Or.inr (hq hw 35 rfl)) (by decide) (t := (.array .int)) (t' := .int) (by decide) (by decide)))))
    have fx17 := (Exa.ext E12 (Exa.wr W6 p0))
    refine oi1' C 43 (ty := (.array .int)) d34_40 rfl (hq hw 131 rfl) Via.refl fx16 fx17 (Or.inr ⟨(hq hw 52 rfl), rfl, rfl⟩) (hq hw 114 rfl) (by decide) rfl rfl (mi 1 rfl) ?_
    intro ph18 W19
    have fx20 : Fld Z ph18 a "java/math/BigInteger" "mag" "[I" (.ref b8) := Fld.same W19 fx16
    refine od' C 44 d34_43 rfl rfl rfl (og' C 47 d34_44 rfl (hq hw 131 rfl) Via.refl fx20 (oe' C 48 (0 : Int32) d34_47 rfl (by decide) (ou' C 49 d34_48 rfl rfl (or1' C 50 (lov v) d34_49 rfl rfl ?_))))
    have fx21 := (fx15.other W19 (Ne.symm (Nat.ne_of_lt (nltle (nltle (p0).lt (Nat.le_of_eq W6.size.symm)) (Nat.le_of_eq g11.symm)))))
    refine oo1' C 51 0 d34_50 rfl fx21 (by decide) rfl (nble rfl) (mi 0 rfl) ?_
    intro ph22 W23 fx24
    have fx25 : Arv Z ph22 b8 k10 .int 1 [(.int (lov v))] (.int 0) := fx24
    refine os' C (pc' := 76) d34_51 (by decide) (by decide) (oi' C d34_76 rfl (by decide) (by decide) ?_)
    have fx26 := (Exa.wr W23 (Exa.wr W19 fx17))
    have fx27 := (Fld.other W23 (Fld.other W19 (Fld.ext E12 fx7) (Or.inr (slot_ne (Or.inr (hq hw 35 rfl)) (Or.inr (hq hw 52 rfl)) (by decide) (t := .int) (t' := (.array .int)) (by decide) (by decide)))) (Or.inl (Nat.ne_of_lt (nltle (nltle (p0).lt (Nat.le_of_eq W6.size.symm)) (Nat.le_of_eq g11.symm)))))
    have fx28 := (Fld.other W23 fx20 (Or.inl (Nat.ne_of_lt (nltle (nltle (p0).lt (Nat.le_of_eq W6.size.symm)) (Nat.le_of_eq g11.symm)))))
    have fx29 := (Exa.wr W23 (Exa.wr W19 X14))
    exact ⟨b8, k10, rfl, fx26, fx27, fx28, fx25, fx29, (Nat.le_trans (Nat.le_of_eq W6.size.symm) (Nat.le_of_eq g11.symm))⟩
  · skip
    refine on' C (pc' := 21) d34_7 (flt hs).2.1 (by decide) (by decide) (od' C 22 d34_21 rfl rfl rfl (oe' C 23 (sgv v) d34_22 rfl (sgv_p fun z => hs (cmpL_lt.mpr z)) (oi1' C 26 (ty := .int) d34_23 rfl (hq hw 34 rfl) Via.refl p1 p0 (Or.inr ⟨(hq hw 35 rfl), rfl, rfl⟩) (hq hw 114 rfl) (by decide) rfl rfl (mi 0 rfl) ?_)))
    intro ph30 W31
    have fx32 : Fld Z ph30 a "java/math/BigInteger" "signum" "I" (.int (sgv v)) := Fld.same W31 p1
    refine ou' C 27 d34_26 rfl rfl (om' C 29 (32 : Int32) d34_27 rfl (by decide) (od2' C 30 (XT.ushrL v (32 : Int32)) d34_29 rfl rfl (or1' C 31 (hiv v) d34_30 rfl (hiv_p fun z => hs (cmpL_lt.mpr z)) (oh' C 32 (Ls' := #[.val (.ref a), .val (.long v), .second, .val (.int (hiv v))]) d34_31 rfl rfl ?_))))
    refine ob' C 33 d34_32 rfl rfl (or' C 36 d34_33 rfl (teq (hh : (hiv v) = (0 : Int32))).2 (od' C 37 d34_36 rfl rfl rfl (oe' C 38 (1 : Int32) d34_37 rfl (by decide) (oy1' C 40 1 1 (ty := .int) (cap := 1) d34_38 rfl rfl rfl rfl (hq hw 79 rfl) (by decide) (by decide) (by decide) (by decide) (by decide) ?_))))
    intro b33 ph34 k35 g36 E37 V38 X39
    have fx40 : Arv Z ph34 b33 k35 .int 1 [.int 0] (.int 0) := V38
    have fx41 := (Fld.ext E37 (Fld.other W31 p2 (Or.inr (slot_ne (Or.inr (hq hw 52 rfl)) (Or.inr (hq hw 35 rfl)) (by decide) (t := (.array .int)) (t' := .int) (by decide) (by decide)))))
    have fx42 := (Exa.ext E37 (Exa.wr W31 p0))
    refine oi1' C 43 (ty := (.array .int)) d34_40 rfl (hq hw 131 rfl) Via.refl fx41 fx42 (Or.inr ⟨(hq hw 52 rfl), rfl, rfl⟩) (hq hw 114 rfl) (by decide) rfl rfl (mi 1 rfl) ?_
    intro ph43 W44
    have fx45 : Fld Z ph43 a "java/math/BigInteger" "mag" "[I" (.ref b33) := Fld.same W44 fx41
    refine od' C 44 d34_43 rfl rfl rfl (og' C 47 d34_44 rfl (hq hw 131 rfl) Via.refl fx45 (oe' C 48 (0 : Int32) d34_47 rfl (by decide) (ou' C 49 d34_48 rfl rfl (or1' C 50 (lov v) d34_49 rfl (lov_p fun z => hs (cmpL_lt.mpr z)) ?_))))
    have fx46 := (fx40.other W44 (Ne.symm (Nat.ne_of_lt (nltle (nltle (p0).lt (Nat.le_of_eq W31.size.symm)) (Nat.le_of_eq g36.symm)))))
    refine oo1' C 51 0 d34_50 rfl fx46 (by decide) rfl (nble rfl) (mi 0 rfl) ?_
    intro ph47 W48 fx49
    have fx50 : Arv Z ph47 b33 k35 .int 1 [(.int (lov v))] (.int 0) := fx49
    refine os' C (pc' := 76) d34_51 (by decide) (by decide) (oi' C d34_76 rfl (by decide) (by decide) ?_)
    have fx51 := (Exa.wr W48 (Exa.wr W44 fx42))
    have fx52 := (Fld.other W48 (Fld.other W44 (Fld.ext E37 fx32) (Or.inr (slot_ne (Or.inr (hq hw 35 rfl)) (Or.inr (hq hw 52 rfl)) (by decide) (t := .int) (t' := (.array .int)) (by decide) (by decide)))) (Or.inl (Nat.ne_of_lt (nltle (nltle (p0).lt (Nat.le_of_eq W31.size.symm)) (Nat.le_of_eq g36.symm)))))
    have fx53 := (Fld.other W48 fx45 (Or.inl (Nat.ne_of_lt (nltle (nltle (p0).lt (Nat.le_of_eq W31.size.symm)) (Nat.le_of_eq g36.symm)))))
    have fx54 := (Exa.wr W48 (Exa.wr W44 X39))
    exact ⟨b33, k35, rfl, fx51, fx52, fx53, fx50, fx54, (Nat.le_trans (Nat.le_of_eq W31.size.symm) (Nat.le_of_eq g36.symm))⟩
theorem ct_v1 (l : Launch) (Z : State) (a0 : Array Value) (hw : HW a0 Z) {one t1 zero t0 pos neg : Addr} {k1 k0 kp kn : ClassId} {pvs nvs : List Value} (am : Amb Z a0 one t1 zero t0 pos neg k1 k0 kp kn pvs nvs) {v : Int64} {h0 : Heap} (hv : ¬ (v = (0 : Int64))) (hh : hiv v = (0 : Int32)) :
    Py l Z (⟨"java/math/BigInteger", "valueOf", "(J)Ljava/math/BigInteger;"⟩ : MethodName) 4 53 2 7 #[(.long v)] h0 [] (fun rv h' => ∃ (a : Addr) (t : Addr) (kt : ClassId), rv = some (.ref a) ∧ Exa Z h' a "java/math/BigInteger" ∧ Fld Z h' a "java/math/BigInteger" "signum" "I" (.int (sgv v)) ∧ Fld Z h' a "java/math/BigInteger" "mag" "[I" (.ref t) ∧ Arv Z h' t kt .int 1 [(.int (lov v))] (.int 0) ∧ Exa Z h' t "[I") := by
  refine Ct.py (by0 := y6) (ml := 2) (rt := (some (.object "java/math/BigInteger"))) (rm := ({ frames := 3, cells := 2, slots := 7, locals := 40 } : Room)) ?_ (hq hw 9 rfl) (hq hw 8 rfl)
  refine Ct.mk (a0 := a0) (Ls := #[.val (.long v), .second]) (plainFor_of_name pn_java_math_BigInteger) (fun m => by simp [entryFrame, mkF, argsToLocals, Value.category]) ?_
  intro κ C
  show Go l _ Z _ _ _ κ [] h0 0 #[.val (.long v), .second] [] 0 0
  refine ou' C 1 d2_0 rfl rfl (on1' C 2 (0 : Int64) d2_1 rfl (by decide) (oh1' C 3 (XT.cmpL v (0 : Int64)) d2_2 rfl rfl (on' C (pc' := 10) d2_3 (feq ((fun z => hv (cmpL_eq.mp z)) : ¬ ((XT.cmpL v (0 : Int64)) = (0 : Int32)))).2 (by decide) (by decide) (ou' C 11 d2_10 rfl rfl ?_))))
  refine on1' C 12 (0 : Int64) d2_11 rfl (by decide) (oh1' C 13 (XT.cmpL v (0 : Int64)) d2_12 rfl rfl ?_)
  by_cases hp : (0 : Int32) < (XT.cmpL v (0 : Int64))
  · skip
    refine or' C 16 d2_13 rfl (tlt hp).2.2.2 (ou' C 17 d2_16 rfl rfl (oq1' C 20 (v := (16 : Int64)) d2_17 rfl (hq hw 10 rfl) (oh1' C 21 (XT.cmpL v (16 : Int64)) d2_20 rfl rfl ?_)))
    by_cases hl : (0 : Int32) < (XT.cmpL v (16 : Int64))
    · skip
      refine on' C (pc' := 31) d2_21 (tlt hl).2.2.1 (by decide) (by decide) (ou' C 32 d2_31 rfl rfl (on1' C 33 (0 : Int64) d2_32 rfl (by decide) (oh1' C 34 (XT.cmpL v (0 : Int64)) d2_33 rfl rfl (on' C (pc' := 53) d2_34 (flt ((fun z => absurd (cmpL_lt.mp z) (lt_asym (cmpL_gt.mp hp))) : ¬ ((XT.cmpL v (0 : Int64)) < (0 : Int32)))).2.1 (by decide) (by decide) ?_))))
      refine ok1' C 56 1 6 d2_53 rfl rfl rfl (hq hw 138 rfl) (hq hw 114 rfl) (hq hw 8 rfl) (by decide) (by decide) ?_
      intro b1 ph2 g3 E4 A5 D6
      have fx7 : Fld Z ph2 b1 "java/math/BigInteger" "signum" "I" (.int 0) := D6 (Or.inr (hq hw 35 rfl)) (ty := .int) (by decide)
      have fx8 : Fld Z ph2 b1 "java/math/BigInteger" "mag" "[I" .null := D6 (Or.inr (hq hw 52 rfl)) (ty := (.array .int)) (by decide)
      refine of1' C 57 d2_56 rfl rfl (ou' C 58 d2_57 rfl rfl (ol1' C (a := b1) (argsL := [(.long v)]) (W := 1) d2_58 rfl (hq hw 195 rfl) (hq hw 196 rfl) (hq hw 197 rfl) (by decide) pd__J_V (ct_bij1 l Z a0 hw am (a := b1) (v := v) A5 fx7 fx8 hv hh) rfl (Nat.le_of_eq rfl) rfl (by decide) (memsS (mi 0 rfl) mems0) ?_))
      intro fv9 ph10 K11 fq12
      obtain ⟨t13, kt14, rfl, fx15, fx16, fx17, fx18, fx19, fx20⟩ := fq12
      refine ⟨[t13], (freshS ⟨fx20, (fx18).lt⟩ fresh0), ?_⟩
      show Go l _ Z _ _ _ κ [t13, b1] _ 61 _ [(.ref b1)] 2 7
      refine ob1' C (v := (.ref b1)) d2_61 rfl rfl rfl (by decide) (by decide) ?_
      exact ⟨b1, t13, kt14, rfl, fx15, fx16, fx17, fx18, fx19⟩
    · skip
      refine or' C 24 d2_21 rfl (flt hl).2.2.1 (ot1' C 27 d2_24 rfl (hq hw 11 rfl) am.2.2.1 (ou' C 28 d2_27 rfl rfl (or1' C 29 (v.toInt32) d2_28 rfl rfl ?_)))
      refine og1' ?_
      intro O21 zO21
      obtain ⟨a22, t23, kt24, q25, q26, q27, q28, q29, q30⟩ := am.2.2.2.2.2.2.2.2.2.2.2.2.2.2.2.2.2.1 v (cmpL_gt.mp hp) (fun z => hl (cmpL_gt.mpr z))
      refine of2' C 30 (v := (.ref a22)) d2_29 rfl (am.2.2.2.2.2.2.2.2.2.2.2.2.2.2.1.ext O21) rfl (idx_p (cmpL_gt.mp hp) fun z => hl (cmpL_gt.mpr z)) q25 (ob1' C (v := (.ref a22)) d2_30 rfl rfl rfl (by decide) (by decide) ?_)
      exact ⟨a22, t23, kt24, rfl, (Exa.ext O21 q26), (Fld.ext O21 q27), (Fld.ext O21 q28), (q29.ext O21), (Exa.ext O21 q30)⟩
  · skip
    refine on' C (pc' := 31) d2_13 (flt hp).2.2.2 (by decide) (by decide) (ou' C 32 d2_31 rfl rfl (on1' C 33 (0 : Int64) d2_32 rfl (by decide) (oh1' C 34 (XT.cmpL v (0 : Int64)) d2_33 rfl rfl ?_)))
    by_cases hm : (XT.cmpL v (0 : Int64)) < (0 : Int32)
    · skip
      refine or' C 37 d2_34 rfl (tlt hm).2.1 (ou' C 38 d2_37 rfl rfl (oq1' C 41 (v := (-16 : Int64)) d2_38 rfl (hq hw 194 rfl) (oh1' C 42 (XT.cmpL v (-16 : Int64)) d2_41 rfl rfl ?_)))
      by_cases hl : (XT.cmpL v (-16 : Int64)) < (0 : Int32)
      · skip
        refine on' C (pc' := 53) d2_42 (tlt hl).1 (by decide) (by decide) (ok1' C 56 1 6 d2_53 rfl rfl rfl (hq hw 138 rfl) (hq hw 114 rfl) (hq hw 8 rfl) (by decide) (by decide) ?_)
        intro b31 ph32 g33 E34 A35 D36
        have fx37 : Fld Z ph32 b31 "java/math/BigInteger" "signum" "I" (.int 0) := D36 (Or.inr (hq hw 35 rfl)) (ty := .int) (by decide)
        have fx38 : Fld Z ph32 b31 "java/math/BigInteger" "mag" "[I" .null := D36 (Or.inr (hq hw 52 rfl)) (ty := (.array .int)) (by decide)
        refine of1' C 57 d2_56 rfl rfl (ou' C 58 d2_57 rfl rfl (ol1' C (a := b31) (argsL := [(.long v)]) (W := 1) d2_58 rfl (hq hw 195 rfl) (hq hw 196 rfl) (hq hw 197 rfl) (by decide) pd__J_V (ct_bij1 l Z a0 hw am (a := b31) (v := v) A35 fx37 fx38 hv hh) rfl (Nat.le_of_eq rfl) rfl (by decide) (memsS (mi 0 rfl) mems0) ?_))
        intro fv39 ph40 K41 fq42
        obtain ⟨t43, kt44, rfl, fx45, fx46, fx47, fx48, fx49, fx50⟩ := fq42
        refine ⟨[t43], (freshS ⟨fx50, (fx48).lt⟩ fresh0), ?_⟩
        show Go l _ Z _ _ _ κ [t43, b31] _ 61 _ [(.ref b31)] 2 7
        refine ob1' C (v := (.ref b31)) d2_61 rfl rfl rfl (by decide) (by decide) ?_
        exact ⟨b31, t43, kt44, rfl, fx45, fx46, fx47, fx48, fx49⟩
      · skip
        refine or' C 45 d2_42 rfl (flt hl).1 (ot1' C 48 d2_45 rfl (hq hw 230 rfl) am.2.2.2.1 (ou' C 49 d2_48 rfl rfl (og2' C 50 (-v) d2_49 rfl rfl (or1' C 51 ((-v).toInt32) d2_50 rfl rfl ?_))))
        refine og1' ?_
        intro O51 zO51
        obtain ⟨a52, t53, kt54, q55, q56, q57, q58, q59, q60⟩ := am.2.2.2.2.2.2.2.2.2.2.2.2.2.2.2.2.2.2 v (cmpL_lt.mp hm) (fun z => hl (cmpL_lt.mpr z))
        refine of2' C 52 (v := (.ref a52)) d2_51 rfl (am.2.2.2.2.2.2.2.2.2.2.2.2.2.2.2.1.ext O51) rfl (idx_n (cmpL_lt.mp hm) fun z => hl (cmpL_lt.mpr z)) q55 (ob1' C (v := (.ref a52)) d2_52 rfl rfl rfl (by decide) (by decide) ?_)
        exact ⟨a52, t53, kt54, rfl, (Exa.ext O51 q56), (Fld.ext O51 q57), (Fld.ext O51 q58), (q59.ext O51), (Exa.ext O51 q60)⟩
    · skip
      refine on' C (pc' := 53) d2_34 (flt hm).2.1 (by decide) (by decide) (ok1' C 56 1 6 d2_53 rfl rfl rfl (hq hw 138 rfl) (hq hw 114 rfl) (hq hw 8 rfl) (by decide) (by decide) ?_)
      intro b61 ph62 g63 E64 A65 D66
      have fx67 : Fld Z ph62 b61 "java/math/BigInteger" "signum" "I" (.int 0) := D66 (Or.inr (hq hw 35 rfl)) (ty := .int) (by decide)
      have fx68 : Fld Z ph62 b61 "java/math/BigInteger" "mag" "[I" .null := D66 (Or.inr (hq hw 52 rfl)) (ty := (.array .int)) (by decide)
      refine of1' C 57 d2_56 rfl rfl (ou' C 58 d2_57 rfl rfl (ol1' C (a := b61) (argsL := [(.long v)]) (W := 1) d2_58 rfl (hq hw 195 rfl) (hq hw 196 rfl) (hq hw 197 rfl) (by decide) pd__J_V (ct_bij1 l Z a0 hw am (a := b61) (v := v) A65 fx67 fx68 hv hh) rfl (Nat.le_of_eq rfl) rfl (by decide) (memsS (mi 0 rfl) mems0) ?_))
      intro fv69 ph70 K71 fq72
      obtain ⟨t73, kt74, rfl, fx75, fx76, fx77, fx78, fx79, fx80⟩ := fq72
      refine ⟨[t73], (freshS ⟨fx80, (fx78).lt⟩ fresh0), ?_⟩
      show Go l _ Z _ _ _ κ [t73, b61] _ 61 _ [(.ref b61)] 2 7
      refine ob1' C (v := (.ref b61)) d2_61 rfl rfl rfl (by decide) (by decide) ?_
      exact ⟨b61, t73, kt74, rfl, fx75, fx76, fx77, fx78, fx79⟩
theorem ct_bij2 (l : Launch) (Z : State) (a0 : Array Value) (hw : HW a0 Z) {one t1 zero t0 pos neg : Addr} {k1 k0 kp kn : ClassId} {pvs nvs : List Value} (am : Amb Z a0 one t1 zero t0 pos neg k1 k0 kp kn pvs nvs) {a : Addr} {v : Int64} {h0 : Heap} (p0 : Exa Z h0 a "java/math/BigInteger") (p1 : Fld Z h0 a "java/math/BigInteger" "signum" "I" (.int 0)) (p2 : Fld Z h0 a "java/math/BigInteger" "mag" "[I" .null) (hv : ¬ (v = (0 : Int64))) (hh : ¬ (hiv v = (0 : Int32))) :
    Py l Z (⟨"java/math/BigInteger", "<init>", "(J)V"⟩ : MethodName) 3 39 1 2 #[(.ref a), (.long v)] h0 [a] (fun rv h' => ∃ (t : Addr) (kt : ClassId), rv = none ∧ Exa Z h' a "java/math/BigInteger" ∧ Fld Z h' a "java/math/BigInteger" "signum" "I" (.int (sgv v)) ∧ Fld Z h' a "java/math/BigInteger" "mag" "[I" (.ref t) ∧ Arv Z h' t kt .int 2 [(.int (hiv v)), (.int (lov v))] (.int 0) ∧ Exa Z h' t "[I" ∧ (h0.size ≤ t)) := by
  refine Ct.py (by0 := y7) (ml := 4) (rt := none) (rm := ({ frames := 2, cells := 1, slots := 2, locals := 24 } : Room)) ?_ (hq hw 197 rfl) (hq hw 8 rfl)
  refine Ct.mk (a0 := a0) (Ls := #[.val (.ref a), .val (.long v), .second, .unset]) (plainFor_of_name pn_java_math_BigInteger) (fun m => by simp [entryFrame, mkF, argsToLocals, Value.category]) ?_
  intro κ C
  show Go l _ Z _ _ _ κ [a] h0 0 #[.val (.ref a), .val (.long v), .second, .unset] [] 0 0
  refine od' C 1 d34_0 rfl rfl rfl (ol1' C (a := a) (argsL := []) (W := 0) d34_1 rfl (hq hw 124 rfl) (hq hw 125 rfl) (hq hw 129 rfl) (by decide) pd___V (ct_num l Z a0 hw am (a := a)) rfl (Nat.le_of_eq rfl) rfl (by decide) mems0 ?_)
  intro fv1 ph2 K3 fq4
  obtain ⟨rfl, rfl⟩ := fq4
  refine ⟨[], fresh0, ?_⟩
  show Go l _ Z _ _ _ κ _ _ 4 _ [] 0 0
  refine ou' C 5 d34_4 rfl rfl (on1' C 6 (0 : Int64) d34_5 rfl (by decide) (oh1' C 7 (XT.cmpL v (0 : Int64)) d34_6 rfl rfl ?_))
  by_cases hs : (XT.cmpL v (0 : Int64)) < (0 : Int32)
  · skip
    refine or' C 10 d34_7 rfl (tlt hs).2.1 (ou' C 11 d34_10 rfl rfl (og2' C 12 (absL v) d34_11 rfl (absL_m (cmpL_lt.mp hs)) (om2' C 13 (Ls' := #[.val (.ref a), .val (.long (absL v)), .second, .unset]) d34_12 rfl rfl (od' C 14 d34_13 rfl rfl rfl ?_))))
    refine oe' C 15 (sgv v) d34_14 rfl (sgv_m (cmpL_lt.mp hs)) (oi1' C 18 (ty := .int) d34_15 rfl (hq hw 34 rfl) Via.refl p1 p0 (Or.inr ⟨(hq hw 35 rfl), rfl, rfl⟩) (hq hw 114 rfl) (by decide) rfl rfl (mi 0 rfl) ?_)
    intro ph5 W6
    have fx7 : Fld Z ph5 a "java/math/BigInteger" "signum" "I" (.int (sgv v)) := Fld.same W6 p1
    refine os' C (pc' := 26) d34_18 (by decide) (by decide) (ou' C 27 d34_26 rfl rfl (om' C 29 (32 : Int32) d34_27 rfl (by decide) (od2' C 30 (XT.ushrL (absL v) (32 : Int32)) d34_29 rfl rfl (or1' C 31 (hiv v) d34_30 rfl rfl ?_))))
    refine oh' C 32 (Ls' := #[.val (.ref a), .val (.long (absL v)), .second, .val (.int (hiv v))]) d34_31 rfl rfl (ob' C 33 d34_32 rfl rfl (on' C (pc' := 54) d34_33 (feq (hh : ¬ ((hiv v) = (0 : Int32)))).2 (by decide) (by decide) (od' C 55 d34_54 rfl rfl rfl (oe' C 56 (2 : Int32) d34_55 rfl (by decide) ?_))))
    refine oy1' C 58 1 2 (ty := .int) (cap := 2) d34_56 rfl rfl rfl rfl (hq hw 79 rfl) (by decide) (by decide) (by decide) (by decide) (by decide) ?_
    intro b8 ph9 k10 g11 E12 V13 X14
    have fx15 : Arv Z ph9 b8 k10 .int 2 [.int 0, .int 0] (.int 0) := V13
    have fx16 := (Fld.ext E12 (Fld.other W6 p2 (Or.inr (slot_ne (Or.inr (hq hw 52 rfl)) (Or.inr (hq hw 35 rfl)) (by decide) (t := (.array .int)) (t' := .int) (by decide) (by decide)))))
    have fx17 := (Exa.ext E12 (Exa.wr W6 p0))
    refine oi1' C 61 (ty := (.array .int)) d34_58 rfl (hq hw 131 rfl) Via.refl fx16 fx17 (Or.inr ⟨(hq hw 52 rfl), rfl, rfl⟩) (hq hw 114 rfl) (by decide) rfl rfl (mi 1 rfl) ?_
    intro ph18 W19
    have fx20 : Fld Z ph18 a "java/math/BigInteger" "mag" "[I" (.ref b8) := Fld.same W19 fx16
    refine od' C 62 d34_61 rfl rfl rfl (og' C 65 d34_62 rfl (hq hw 131 rfl) Via.refl fx20 (oe' C 66 (0 : Int32) d34_65 rfl (by decide) (ob' C 67 d34_66 rfl rfl ?_)))
    have fx21 := (fx15.other W19 (Ne.symm (Nat.ne_of_lt (nltle (nltle (p0).lt (Nat.le_of_eq W6.size.symm)) (Nat.le_of_eq g11.symm)))))
    refine oo1' C 68 0 d34_67 rfl fx21 (by decide) rfl (nble rfl) (mi 0 rfl) ?_
    intro ph22 W23 fx24
    have fx25 : Arv Z ph22 b8 k10 .int 2 [(.int (hiv v)), .int 0] (.int 0) := fx24
    refine od' C 69 d34_68 rfl rfl rfl ?_
    have fx26 := (Fld.other W23 fx20 (Or.inl (Nat.ne_of_lt (nltle (nltle (p0).lt (Nat.le_of_eq W6.size.symm)) (Nat.le_of_eq g11.symm)))))
    refine og' C 72 d34_69 rfl (hq hw 131 rfl) Via.refl fx26 (oe' C 73 (1 : Int32) d34_72 rfl (by decide) (ou' C 74 d34_73 rfl rfl (or1' C 75 (lov v) d34_74 rfl rfl (oo1' C 76 1 d34_75 rfl fx25 (by decide) rfl (nble rfl) (mi 0 rfl) ?_))))
    intro ph27 W28 fx29
    have fx30 : Arv Z ph27 b8 k10 .int 2 [(.int (hiv v)), (.int (lov v))] (.int 0) := fx29
    refine oi' C d34_76 rfl (by decide) (by decide) ?_
    have fx31 := (Exa.wr W28 (Exa.wr W23 (Exa.wr W19 fx17)))
    have fx32 := (Fld.other W28 (Fld.other W23 (Fld.other W19 (Fld.ext E12 fx7) (Or.inr (slot_ne (Or.inr (hq hw 35 rfl)) (Or.inr (hq hw 52 rfl)) (by decide) (t := .int) (t' := (.array .int)) (by decide) (by decide)))) (Or.inl (Nat.ne_of_lt (nltle (nltle (p0).lt (Nat.le_of_eq W6.size.symm)) (Nat.le_of_eq g11.symm))))) (Or.inl (Nat.ne_of_lt (nltle (nltle (p0).lt (Nat.le_of_eq W6.size.symm)) (Nat.le_of_eq g11.symm)))))
    have fx33 := (Fld.other W28 fx26 (Or.inl (Nat.ne_of_lt (nltle (nltle (p0).lt (Nat.le_of_eq W6.size.symm)) (Nat.le_of_eq g11.symm)))))
    have fx34 := (Exa.wr W28 (Exa.wr W23 (Exa.wr W19 X14)))
    exact ⟨b8, k10, rfl, fx31, fx32, fx33, fx30, fx34, (Nat.le_trans (Nat.le_of_eq W6.size.symm) (Nat.le_of_eq g11.symm))⟩
  · skip
    refine on' C (pc' := 21) d34_7 (flt hs).2.1 (by decide) (by decide) (od' C 22 d34_21 rfl rfl rfl (oe' C 23 (sgv v) d34_22 rfl (sgv_p fun z => hs (cmpL_lt.mpr z)) (oi1' C 26 (ty := .int) d34_23 rfl (hq hw 34 rfl) Via.refl p1 p0 (Or.inr ⟨(hq hw 35 rfl), rfl, rfl⟩) (hq hw 114 rfl) (by decide) rfl rfl (mi 0 rfl) ?_)))
    intro ph35 W36
    have fx37 : Fld Z ph35 a "java/math/BigInteger" "signum" "I" (.int (sgv v)) := Fld.same W36 p1
    refine ou' C 27 d34_26 rfl rfl (om' C 29 (32 : Int32) d34_27 rfl (by decide) (od2' C 30 (XT.ushrL v (32 : Int32)) d34_29 rfl rfl (or1' C 31 (hiv v) d34_30 rfl (hiv_p fun z => hs (cmpL_lt.mpr z)) (oh' C 32 (Ls' := #[.val (.ref a), .val (.long v), .second, .val (.int (hiv v))]) d34_31 rfl rfl ?_))))
    refine ob' C 33 d34_32 rfl rfl (on' C (pc' := 54) d34_33 (feq (hh : ¬ ((hiv v) = (0 : Int32)))).2 (by decide) (by decide) (od' C 55 d34_54 rfl rfl rfl (oe' C 56 (2 : Int32) d34_55 rfl (by decide) (oy1' C 58 1 2 (ty := .int) (cap := 2) d34_56 rfl rfl rfl rfl (hq hw 79 rfl) (by decide) (by decide) (by decide) (by decide) (by decide) ?_))))
    intro b38 ph39 k40 g41 E42 V43 X44
    have fx45 : Arv Z ph39 b38 k40 .int 2 [.int 0, .int 0] (.int 0) := V43
    have fx46 := (Fld.ext E42 (Fld.other W36 p2 (Or.inr (slot_ne (Or.inr (hq hw 52 rfl)) (Or.inr (hq hw 35 rfl)) (by decide) (t := (.array .int)) (t' := .int) (by decide) (by decide)))))
    have fx47 := (Exa.ext E42 (Exa.wr W36 p0))
    refine oi1' C 61 (ty := (.array .int)) d34_58 rfl (hq hw 131 rfl) Via.refl fx46 fx47 (Or.inr ⟨(hq hw 52 rfl), rfl, rfl⟩) (hq hw 114 rfl) (by decide) rfl rfl (mi 1 rfl) ?_
    intro ph48 W49
    have fx50 : Fld Z ph48 a "java/math/BigInteger" "mag" "[I" (.ref b38) := Fld.same W49 fx46
    refine od' C 62 d34_61 rfl rfl rfl (og' C 65 d34_62 rfl (hq hw 131 rfl) Via.refl fx50 (oe' C 66 (0 : Int32) d34_65 rfl (by decide) (ob' C 67 d34_66 rfl rfl ?_)))
    have fx51 := (fx45.other W49 (Ne.symm (Nat.ne_of_lt (nltle (nltle (p0).lt (Nat.le_of_eq W36.size.symm)) (Nat.le_of_eq g41.symm)))))
    refine oo1' C 68 0 d34_67 rfl fx51 (by decide) rfl (nble rfl) (mi 0 rfl) ?_
    intro ph52 W53 fx54
    have fx55 : Arv Z ph52 b38 k40 .int 2 [(.int (hiv v)), .int 0] (.int 0) := fx54
    refine od' C 69 d34_68 rfl rfl rfl ?_
    have fx56 := (Fld.other W53 fx50 (Or.inl (Nat.ne_of_lt (nltle (nltle (p0).lt (Nat.le_of_eq W36.size.symm)) (Nat.le_of_eq g41.symm)))))
    refine og' C 72 d34_69 rfl (hq hw 131 rfl) Via.refl fx56 (oe' C 73 (1 : Int32) d34_72 rfl (by decide) (ou' C 74 d34_73 rfl rfl (or1' C 75 (lov v) d34_74 rfl (lov_p fun z => hs (cmpL_lt.mpr z)) (oo1' C 76 1 d34_75 rfl fx55 (by decide) rfl (nble rfl) (mi 0 rfl) ?_))))
    intro ph57 W58 fx59
    have fx60 : Arv Z ph57 b38 k40 .int 2 [(.int (hiv v)), (.int (lov v))] (.int 0) := fx59
    refine oi' C d34_76 rfl (by decide) (by decide) ?_
    have fx61 := (Exa.wr W58 (Exa.wr W53 (Exa.wr W49 fx47)))
    have fx62 := (Fld.other W58 (Fld.other W53 (Fld.other W49 (Fld.ext E42 fx37) (Or.inr (slot_ne (Or.inr (hq hw 35 rfl)) (Or.inr (hq hw 52 rfl)) (by decide) (t := .int) (t' := (.array .int)) (by decide) (by decide)))) (Or.inl (Nat.ne_of_lt (nltle (nltle (p0).lt (Nat.le_of_eq W36.size.symm)) (Nat.le_of_eq g41.symm))))) (Or.inl (Nat.ne_of_lt (nltle (nltle (p0).lt (Nat.le_of_eq W36.size.symm)) (Nat.le_of_eq g41.symm)))))
    have fx63 := (Fld.other W58 fx56 (Or.inl (Nat.ne_of_lt (nltle (nltle (p0).lt (Nat.le_of_eq W36.size.symm)) (Nat.le_of_eq g41.symm)))))
    have fx64 := (Exa.wr W58 (Exa.wr W53 (Exa.wr W49 X44)))
    exact ⟨b38, k40, rfl, fx61, fx62, fx63, fx60, fx64, (Nat.le_trans (Nat.le_of_eq W36.size.symm) (Nat.le_of_eq g41.symm))⟩
theorem ct_v2 (l : Launch) (Z : State) (a0 : Array Value) (hw : HW a0 Z) {one t1 zero t0 pos neg : Addr} {k1 k0 kp kn : ClassId} {pvs nvs : List Value} (am : Amb Z a0 one t1 zero t0 pos neg k1 k0 kp kn pvs nvs) {v : Int64} {h0 : Heap} (hv : ¬ (v = (0 : Int64))) (hh : ¬ (hiv v = (0 : Int32))) :
    Py l Z (⟨"java/math/BigInteger", "valueOf", "(J)Ljava/math/BigInteger;"⟩ : MethodName) 4 53 2 8 #[(.long v)] h0 [] (fun rv h' => ∃ (a : Addr) (t : Addr) (kt : ClassId), rv = some (.ref a) ∧ Exa Z h' a "java/math/BigInteger" ∧ Fld Z h' a "java/math/BigInteger" "signum" "I" (.int (sgv v)) ∧ Fld Z h' a "java/math/BigInteger" "mag" "[I" (.ref t) ∧ Arv Z h' t kt .int 2 [(.int (hiv v)), (.int (lov v))] (.int 0) ∧ Exa Z h' t "[I") := by
  refine Ct.py (by0 := y6) (ml := 2) (rt := (some (.object "java/math/BigInteger"))) (rm := ({ frames := 3, cells := 2, slots := 8, locals := 40 } : Room)) ?_ (hq hw 9 rfl) (hq hw 8 rfl)
  refine Ct.mk (a0 := a0) (Ls := #[.val (.long v), .second]) (plainFor_of_name pn_java_math_BigInteger) (fun m => by simp [entryFrame, mkF, argsToLocals, Value.category]) ?_
  intro κ C
  show Go l _ Z _ _ _ κ [] h0 0 #[.val (.long v), .second] [] 0 0
  refine ou' C 1 d2_0 rfl rfl (on1' C 2 (0 : Int64) d2_1 rfl (by decide) (oh1' C 3 (XT.cmpL v (0 : Int64)) d2_2 rfl rfl (on' C (pc' := 10) d2_3 (feq ((fun z => hv (cmpL_eq.mp z)) : ¬ ((XT.cmpL v (0 : Int64)) = (0 : Int32)))).2 (by decide) (by decide) (ou' C 11 d2_10 rfl rfl ?_))))
  refine on1' C 12 (0 : Int64) d2_11 rfl (by decide) (oh1' C 13 (XT.cmpL v (0 : Int64)) d2_12 rfl rfl ?_)
  by_cases hp : (0 : Int32) < (XT.cmpL v (0 : Int64))
  · skip
    refine or' C 16 d2_13 rfl (tlt hp).2.2.2 (ou' C 17 d2_16 rfl rfl (oq1' C 20 (v := (16 : Int64)) d2_17 rfl (hq hw 10 rfl) (oh1' C 21 (XT.cmpL v (16 : Int64)) d2_20 rfl rfl ?_)))
    by_cases hl : (0 : Int32) < (XT.cmpL v (16 : Int64))
    · skip
      refine on' C (pc' := 31) d2_21 (tlt hl).2.2.1 (by decide) (by decide) (ou' C 32 d2_31 rfl rfl (on1' C 33 (0 : Int64) d2_32 rfl (by decide) (oh1' C 34 (XT.cmpL v (0 : Int64)) d2_33 rfl rfl (on' C (pc' := 53) d2_34 (flt ((fun z => absurd (cmpL_lt.mp z) (lt_asym (cmpL_gt.mp hp))) : ¬ ((XT.cmpL v (0 : Int64)) < (0 : Int32)))).2.1 (by decide) (by decide) ?_))))
      refine ok1' C 56 1 6 d2_53 rfl rfl rfl (hq hw 138 rfl) (hq hw 114 rfl) (hq hw 8 rfl) (by decide) (by decide) ?_
      intro b1 ph2 g3 E4 A5 D6
      have fx7 : Fld Z ph2 b1 "java/math/BigInteger" "signum" "I" (.int 0) := D6 (Or.inr (hq hw 35 rfl)) (ty := .int) (by decide)
      have fx8 : Fld Z ph2 b1 "java/math/BigInteger" "mag" "[I" .null := D6 (Or.inr (hq hw 52 rfl)) (ty := (.array .int)) (by decide)
      refine of1' C 57 d2_56 rfl rfl (ou' C 58 d2_57 rfl rfl (ol1' C (a := b1) (argsL := [(.long v)]) (W := 1) d2_58 rfl (hq hw 195 rfl) (hq hw 196 rfl) (hq hw 197 rfl) (by decide) pd__J_V (ct_bij2 l Z a0 hw am (a := b1) (v := v) A5 fx7 fx8 hv hh) rfl (Nat.le_of_eq rfl) rfl (by decide) (memsS (mi 0 rfl) mems0) ?_))
      intro fv9 ph10 K11 fq12
      obtain ⟨t13, kt14, rfl, fx15, fx16, fx17, fx18, fx19, fx20⟩ := fq12
      refine ⟨[t13], (freshS ⟨fx20, (fx18).lt⟩ fresh0), ?_⟩
      show Go l _ Z _ _ _ κ [t13, b1] _ 61 _ [(.ref b1)] 2 8
      refine ob1' C (v := (.ref b1)) d2_61 rfl rfl rfl (by decide) (by decide) ?_
      exact ⟨b1, t13, kt14, rfl, fx15, fx16, fx17, fx18, fx19⟩
    · skip
      exact absurd (small_p (cmpL_gt.mp hp) fun z => hl (cmpL_gt.mpr z)) hh
  · skip
    refine on' C (pc' := 31) d2_13 (flt hp).2.2.2 (by decide) (by decide) (ou' C 32 d2_31 rfl rfl (on1' C 33 (0 : Int64) d2_32 rfl (by decide) (oh1' C 34 (XT.cmpL v (0 : Int64)) d2_33 rfl rfl ?_)))
    by_cases hm : (XT.cmpL v (0 : Int64)) < (0 : Int32)
    · skip
      refine or' C 37 d2_34 rfl (tlt hm).2.1 (ou' C 38 d2_37 rfl rfl (oq1' C 41 (v := (-16 : Int64)) d2_38 rfl (hq hw 194 rfl) (oh1' C 42 (XT.cmpL v (-16 : Int64)) d2_41 rfl rfl ?_)))
      by_cases hl : (XT.cmpL v (-16 : Int64)) < (0 : Int32)
      · skip
        refine on' C (pc' := 53) d2_42 (tlt hl).1 (by decide) (by decide) (ok1' C 56 1 6 d2_53 rfl rfl rfl (hq hw 138 rfl) (hq hw 114 rfl) (hq hw 8 rfl) (by decide) (by decide) ?_)
        intro b21 ph22 g23 E24 A25 D26
        have fx27 : Fld Z ph22 b21 "java/math/BigInteger" "signum" "I" (.int 0) := D26 (Or.inr (hq hw 35 rfl)) (ty := .int) (by decide)
        have fx28 : Fld Z ph22 b21 "java/math/BigInteger" "mag" "[I" .null := D26 (Or.inr (hq hw 52 rfl)) (ty := (.array .int)) (by decide)
        refine of1' C 57 d2_56 rfl rfl (ou' C 58 d2_57 rfl rfl (ol1' C (a := b21) (argsL := [(.long v)]) (W := 1) d2_58 rfl (hq hw 195 rfl) (hq hw 196 rfl) (hq hw 197 rfl) (by decide) pd__J_V (ct_bij2 l Z a0 hw am (a := b21) (v := v) A25 fx27 fx28 hv hh) rfl (Nat.le_of_eq rfl) rfl (by decide) (memsS (mi 0 rfl) mems0) ?_))
        intro fv29 ph30 K31 fq32
        obtain ⟨t33, kt34, rfl, fx35, fx36, fx37, fx38, fx39, fx40⟩ := fq32
        refine ⟨[t33], (freshS ⟨fx40, (fx38).lt⟩ fresh0), ?_⟩
        show Go l _ Z _ _ _ κ [t33, b21] _ 61 _ [(.ref b21)] 2 8
        refine ob1' C (v := (.ref b21)) d2_61 rfl rfl rfl (by decide) (by decide) ?_
        exact ⟨b21, t33, kt34, rfl, fx35, fx36, fx37, fx38, fx39⟩
      · skip
        exact absurd (small_n (cmpL_lt.mp hm) fun z => hl (cmpL_lt.mpr z)) hh
    · skip
      refine on' C (pc' := 53) d2_34 (flt hm).2.1 (by decide) (by decide) (ok1' C 56 1 6 d2_53 rfl rfl rfl (hq hw 138 rfl) (hq hw 114 rfl) (hq hw 8 rfl) (by decide) (by decide) ?_)
      intro b41 ph42 g43 E44 A45 D46
      have fx47 : Fld Z ph42 b41 "java/math/BigInteger" "signum" "I" (.int 0) := D46 (Or.inr (hq hw 35 rfl)) (ty := .int) (by decide)
      have fx48 : Fld Z ph42 b41 "java/math/BigInteger" "mag" "[I" .null := D46 (Or.inr (hq hw 52 rfl)) (ty := (.array .int)) (by decide)
      refine of1' C 57 d2_56 rfl rfl (ou' C 58 d2_57 rfl rfl (ol1' C (a := b41) (argsL := [(.long v)]) (W := 1) d2_58 rfl (hq hw 195 rfl) (hq hw 196 rfl) (hq hw 197 rfl) (by decide) pd__J_V (ct_bij2 l Z a0 hw am (a := b41) (v := v) A45 fx47 fx48 hv hh) rfl (Nat.le_of_eq rfl) rfl (by decide) (memsS (mi 0 rfl) mems0) ?_))
      intro fv49 ph50 K51 fq52
      obtain ⟨t53, kt54, rfl, fx55, fx56, fx57, fx58, fx59, fx60⟩ := fq52
      refine ⟨[t53], (freshS ⟨fx60, (fx58).lt⟩ fresh0), ?_⟩
      show Go l _ Z _ _ _ κ [t53, b41] _ 61 _ [(.ref b41)] 2 8
      refine ob1' C (v := (.ref b41)) d2_61 rfl rfl rfl (by decide) (by decide) ?_
      exact ⟨b41, t53, kt54, rfl, fx55, fx56, fx57, fx58, fx59⟩
theorem ct_fri (l : Launch) (Z : State) (a0 : Array Value) (hw : HW a0 Z) {one t1 zero t0 pos neg : Addr} {k1 k0 kp kn : ClassId} {pvs nvs : List Value} (am : Amb Z a0 one t1 zero t0 pos neg k1 k0 kp kn pvs nvs) {f a b : Addr} {h0 : Heap} (p0 : Exa Z h0 f "com/example/slicewise/slicewise/Fraction") (p1 : Fld Z h0 f "com/example/slicewise/slicewise/Fraction" "numerator" "Ljava/math/BigInteger;" .null) (p2 : Fld Z h0 f "com/example/slicewise/slicewise/Fraction" "denominator" "Ljava/math/BigInteger;" .null) :
    Py l Z (⟨"com/example/slicewise/slicewise/Fraction", "<init>", "(Ljava/math/BigInteger;Ljava/math/BigInteger;)V"⟩ : MethodName) 2 26 0 0 #[(.ref f), (.ref a), (.ref b)] h0 [f] (fun rv h' => rv = none ∧ Exa Z h' f "com/example/slicewise/slicewise/Fraction" ∧ Fld Z h' f "com/example/slicewise/slicewise/Fraction" "numerator" "Ljava/math/BigInteger;" (.ref a) ∧ Fld Z h' f "com/example/slicewise/slicewise/Fraction" "denominator" "Ljava/math/BigInteger;" (.ref b)) := by
  refine Ct.py (by0 := y36) (ml := 3) (rt := none) (rm := ({ frames := 1, cells := 0, slots := 0, locals := 12 } : Room)) ?_ (hq hw 15 rfl) (hq hw 2 rfl)
  refine Ct.mk (a0 := a0) (Ls := #[.val (.ref f), .val (.ref a), .val (.ref b)]) (plainFor_of_name pn_com_example_slicewise_slicewise_Fraction) (fun m => by simp [entryFrame, mkF, argsToLocals, Value.category]) ?_
  intro κ C
  show Go l _ Z _ _ _ κ [f] h0 0 #[.val (.ref f), .val (.ref a), .val (.ref b)] [] 0 0
  refine od' C 1 d3_0 rfl rfl rfl (oa2' C 4 (W := 0) d3_1 rfl (hq hw 16 rfl) (hq hw 17 rfl) (hq hw 18 rfl) rfl (by decide) (Nat.le_of_eq rfl) (by decide) (od' C 5 d3_4 rfl rfl rfl (od' C 6 d3_5 rfl rfl rfl (oi1' C 9 (ty := (.object "java/math/BigInteger")) d3_6 rfl (hq hw 19 rfl) Via.refl p1 p0 (Or.inr ⟨(hq hw 20 rfl), rfl, rfl⟩) (hq hw 5 rfl) (by decide) rfl rfl (mi 0 rfl) ?_))))
  intro ph1 W2
  have fx3 : Fld Z ph1 f "com/example/slicewise/slicewise/Fraction" "numerator" "Ljava/math/BigInteger;" (.ref a) := Fld.same W2 p1
  refine od' C 10 d3_9 rfl rfl rfl (od' C 11 d3_10 rfl rfl rfl ?_)
  have fx4 := (Fld.other W2 p2 (Or.inr (slot_ne (Or.inr (hq hw 22 rfl)) (Or.inr (hq hw 20 rfl)) (by decide) (t := (.object "java/math/BigInteger")) (t' := (.object "java/math/BigInteger")) (by decide) (by decide))))
  have fx5 := (Exa.wr W2 p0)
  refine oi1' C 14 (ty := (.object "java/math/BigInteger")) d3_11 rfl (hq hw 21 rfl) Via.refl fx4 fx5 (Or.inr ⟨(hq hw 22 rfl), rfl, rfl⟩) (hq hw 5 rfl) (by decide) rfl rfl (mi 0 rfl) ?_
  intro ph6 W7
  have fx8 : Fld Z ph6 f "com/example/slicewise/slicewise/Fraction" "denominator" "Ljava/math/BigInteger;" (.ref b) := Fld.same W7 fx4
  refine oi' C d3_14 rfl (by decide) (by decide) ?_
  have fx9 := (Exa.wr W7 fx5)
  have fx10 := (Fld.other W7 fx3 (Or.inr (slot_ne (Or.inr (hq hw 20 rfl)) (Or.inr (hq hw 22 rfl)) (by decide) (t := (.object "java/math/BigInteger")) (t' := (.object "java/math/BigInteger")) (by decide) (by decide))))
  exact ⟨rfl, fx9, fx10, fx8⟩
theorem ct_of0 (l : Launch) (Z : State) (a0 : Array Value) (hw : HW a0 Z) {one t1 zero t0 pos neg : Addr} {k1 k0 kp kn : ClassId} {pvs nvs : List Value} (am : Amb Z a0 one t1 zero t0 pos neg k1 k0 kp kn pvs nvs) {v : Int64} {h0 : Heap} (hv : v = (0 : Int64)) :
    Py l Z (⟨"com/example/slicewise/slicewise/Fraction", "of", "(J)Lcom/example/slicewise/slicewise/Fraction;"⟩ : MethodName) 5 68 3 10 #[(.long v)] h0 [] (fun rv h' => ∃ (f : Addr), rv = some (.ref f) ∧ Exa Z h' f "com/example/slicewise/slicewise/Fraction" ∧ Fld Z h' f "com/example/slicewise/slicewise/Fraction" "numerator" "Ljava/math/BigInteger;" (.ref zero) ∧ Fld Z h' f "com/example/slicewise/slicewise/Fraction" "denominator" "Ljava/math/BigInteger;" (.ref one)) := by
  refine Ct.py (by0 := y39) (ml := 2) (rt := (some (.object "com/example/slicewise/slicewise/Fraction"))) (rm := ({ frames := 4, cells := 3, slots := 10, locals := 55 } : Room)) ?_ (hq hw 3 rfl) (hq hw 2 rfl)
  refine Ct.mk (a0 := a0) (Ls := #[.val (.long v), .second]) (plainFor_of_name pn_com_example_slicewise_slicewise_Fraction) (fun m => by simp [entryFrame, mkF, argsToLocals, Value.category]) ?_
  intro κ C
  show Go l _ Z _ _ _ κ [] h0 0 #[.val (.long v), .second] [] 0 0
  refine ok1' C 3 1 2 d1_0 rfl rfl rfl (hq hw 4 rfl) (hq hw 5 rfl) (hq hw 2 rfl) (by decide) (by decide) ?_
  intro b1 ph2 g3 E4 A5 D6
  have fx7 : Fld Z ph2 b1 "com/example/slicewise/slicewise/Fraction" "numerator" "Ljava/math/BigInteger;" .null := D6 (Or.inr (hq hw 20 rfl)) (ty := (.object "java/math/BigInteger")) (by decide)
  have fx8 : Fld Z ph2 b1 "com/example/slicewise/slicewise/Fraction" "denominator" "Ljava/math/BigInteger;" .null := D6 (Or.inr (hq hw 22 rfl)) (ty := (.object "java/math/BigInteger")) (by decide)
  refine of1' C 4 d1_3 rfl rfl (ou' C 5 d1_4 rfl rfl (oc1' C (argsL := [(.long v)]) (W := 2) d1_5 (hq hw 6 rfl) (hq hw 7 rfl) (hq hw 8 rfl) (hq hw 9 rfl) (by decide) pd__J_Ljava_math_BigInteger_ (ct_v0 l Z a0 hw am (v := v) hv) rfl (Nat.le_of_eq rfl) rfl (by decide) mems0 ?_))
  intro fv9 ph10 K11 fq12
  obtain ⟨rfl, rfl⟩ := fq12
  refine ⟨[], fresh0, ?_⟩
  show Go l _ Z _ _ _ κ _ _ 8 _ [(.ref zero), (.ref b1), (.ref b1)] 1 2
  refine ot1' C 11 d1_8 rfl (hq hw 12 rfl) am.1 (ol1' C (a := b1) (argsL := [(.ref zero), (.ref one)]) (W := 1) d1_11 rfl (hq hw 13 rfl) (hq hw 14 rfl) (hq hw 15 rfl) (by decide) pd__Ljava_math_BigInteger_Ljava_math_BigInteger__V (ct_fri l Z a0 hw am (f := b1) (a := zero) (b := one) A5 fx7 fx8) rfl (Nat.le_of_eq rfl) rfl (by decide) (memsS (mi 0 rfl) mems0) ?_)
  intro fv13 ph14 K15 fq16
  obtain ⟨rfl, fx17, fx18, fx19⟩ := fq16
  refine ⟨[], fresh0, ?_⟩
  show Go l _ Z _ _ _ κ _ _ 14 _ [(.ref b1)] 1 2
  refine ob1' C (v := (.ref b1)) d1_14 rfl rfl rfl (by decide) (by decide) ?_
  exact ⟨b1, rfl, fx17, fx18, fx19⟩
theorem ct_ofB0 (l : Launch) (Z : State) (a0 : Array Value) (hw : HW a0 Z) {one t1 zero t0 pos neg : Addr} {k1 k0 kp kn : ClassId} {pvs nvs : List Value} (am : Amb Z a0 one t1 zero t0 pos neg k1 k0 kp kn pvs nvs) {h0 : Heap} :
    Py l Z (⟨"com/example/slicewise/slicewise/Fraction", "of", "(Ljava/math/BigInteger;Ljava/math/BigInteger;)Lcom/example/slicewise/slicewise/Fraction;"⟩ : MethodName) 3 42 1 2 #[(.ref zero), (.ref one)] h0 [] (fun rv h' => ∃ (f : Addr), rv = some (.ref f) ∧ Exa Z h' f "com/example/slicewise/slicewise/Fraction" ∧ Fld Z h' f "com/example/slicewise/slicewise/Fraction" "numerator" "Ljava/math/BigInteger;" (.ref zero) ∧ Fld Z h' f "com/example/slicewise/slicewise/Fraction" "denominator" "Ljava/math/BigInteger;" (.ref one)) := by
  refine Ct.py (by0 := y38) (ml := 3) (rt := (some (.object "com/example/slicewise/slicewise/Fraction"))) (rm := ({ frames := 2, cells := 1, slots := 2, locals := 28 } : Room)) ?_ (hq hw 28 rfl) (hq hw 2 rfl)
  refine Ct.mk (a0 := a0) (Ls := #[.val (.ref zero), .val (.ref one), .unset]) (plainFor_of_name pn_com_example_slicewise_slicewise_Fraction) (fun m => by simp [entryFrame, mkF, argsToLocals, Value.category]) ?_
  intro κ C
  show Go l _ Z _ _ _ κ [] h0 0 #[.val (.ref zero), .val (.ref one), .unset] [] 0 0
  refine od' C 1 d6_0 rfl rfl rfl ?_
  refine og1' ?_
  intro O1 zO1
  refine oq' C (a := one) (argsL := []) (W := 0) d6_1 (hq hw 29 rfl) (hq hw 30 rfl) (nfS (hq hw 32 rfl)) (hq hw 32 rfl) (hq hw 31 rfl) (Exa.ext O1 am.2.2.2.2.1) (by decide) pd___I (ct_bsg l Z a0 hw am (a := one) (g := (1 : Int32)) (Fld.ext O1 am.2.2.2.2.2.1)) rfl (Nat.le_of_eq rfl) rfl (by decide) mems0 ?_
  intro fv2 ph3 K4 fq5
  obtain ⟨rfl, rfl⟩ := fq5
  refine ⟨[], fresh0, ?_⟩
  show Go l _ Z _ _ _ κ _ _ 4 _ [.int 1] 0 0
  refine on' C (pc' := 17) d6_4 (by decide) (by decide) (by decide) (od' C 18 d6_17 rfl rfl rfl (oq' C (a := one) (argsL := []) (W := 0) d6_18 (hq hw 29 rfl) (hq hw 30 rfl) (nfS (hq hw 32 rfl)) (hq hw 32 rfl) (hq hw 31 rfl) (Exa.ext O1 am.2.2.2.2.1) (by decide) pd___I (ct_bsg l Z a0 hw am (a := one) (g := (1 : Int32)) (Fld.ext O1 am.2.2.2.2.2.1)) rfl (Nat.le_of_eq rfl) rfl (by decide) mems0 ?_))
  intro fv6 ph7 K8 fq9
  obtain ⟨rfl, rfl⟩ := fq9
  refine ⟨[], fresh0, ?_⟩
  show Go l _ Z _ _ _ κ _ _ 21 _ [.int 1] 0 0
  refine on' C (pc' := 34) d6_21 (by decide) (by decide) (by decide) (od' C 35 d6_34 rfl rfl rfl (od' C 36 d6_35 rfl rfl rfl (oq' C (a := zero) (argsL := [(.ref one)]) (W := 0) d6_36 (hq hw 36 rfl) (hq hw 37 rfl) (nfS (hq hw 39 rfl)) (hq hw 39 rfl) (hq hw 38 rfl) (Exa.ext O1 am.2.2.2.2.2.2.2.2.2.1) (by decide) pd__Ljava_math_BigInteger__Ljava_math_BigInteger_ (ct_g0 l Z a0 hw am (a := zero) (Fld.ext O1 am.2.2.2.2.2.2.2.2.2.2.1)) rfl (Nat.le_of_eq rfl) rfl (by decide) mems0 ?_)))
  intro fv10 ph11 K12 fq13
  obtain ⟨rfl, rfl⟩ := fq13
  refine ⟨[], fresh0, ?_⟩
  show Go l _ Z _ _ _ κ _ _ 39 _ [(.ref one)] 0 0
  refine oj1' C 40 (Ls' := #[.val (.ref zero), .val (.ref one), .val (.ref one)]) d6_39 rfl rfl rfl (od' C 41 d6_40 rfl rfl rfl (ot1' C 44 d6_41 rfl (hq hw 12 rfl) am.1 (oq' C (a := one) (argsL := [(.ref one)]) (W := 0) d6_44 (hq hw 133 rfl) (hq hw 134 rfl) (nfS (hq hw 136 rfl)) (hq hw 136 rfl) (hq hw 135 rfl) (Exa.ext O1 am.2.2.2.2.1) (by decide) pd__Ljava_lang_Object__Z (ct_beq1 l Z a0 hw am (a := one) (b := one) (t := t1) (u := t1) (kt := k1) (ku := k1) (x0 := (1 : Int32)) (y0 := (1 : Int32)) (g := (1 : Int32)) (f := (1 : Int32)) (Exa.ext O1 am.2.2.2.2.1) (Fld.ext O1 am.2.2.2.2.2.1) (Fld.ext O1 am.2.2.2.2.2.2.1) (am.2.2.2.2.2.2.2.1.ext O1) (Exa.ext O1 am.2.2.2.2.1) (Fld.ext O1 am.2.2.2.2.2.1) (Fld.ext O1 am.2.2.2.2.2.2.1) (am.2.2.2.2.2.2.2.1.ext O1) rfl rfl) rfl (Nat.le_of_eq rfl) rfl (by decide) mems0 ?_)))
  intro fv14 ph15 K16 fq17
  obtain ⟨rfl, rfl⟩ := fq17
  refine ⟨[], fresh0, ?_⟩
  show Go l _ Z _ _ _ κ _ _ 47 _ [.int 1] 0 0
  refine on' C (pc' := 62) d6_47 (by decide) (by decide) (by decide) (ok1' C 65 1 2 d6_62 rfl rfl rfl (hq hw 4 rfl) (hq hw 5 rfl) (hq hw 2 rfl) (by decide) (by decide) ?_)
  intro b18 ph19 g20 E21 A22 D23
  have fx24 : Fld Z ph19 b18 "com/example/slicewise/slicewise/Fraction" "numerator" "Ljava/math/BigInteger;" .null := D23 (Or.inr (hq hw 20 rfl)) (ty := (.object "java/math/BigInteger")) (by decide)
  have fx25 : Fld Z ph19 b18 "com/example/slicewise/slicewise/Fraction" "denominator" "Ljava/math/BigInteger;" .null := D23 (Or.inr (hq hw 22 rfl)) (ty := (.object "java/math/BigInteger")) (by decide)
  refine of1' C 66 d6_65 rfl rfl (od' C 67 d6_66 rfl rfl rfl (od' C 68 d6_67 rfl rfl rfl (ol1' C (a := b18) (argsL := [(.ref zero), (.ref one)]) (W := 1) d6_68 rfl (hq hw 13 rfl) (hq hw 14 rfl) (hq hw 15 rfl) (by decide) pd__Ljava_math_BigInteger_Ljava_math_BigInteger__V (ct_fri l Z a0 hw am (f := b18) (a := zero) (b := one) A22 fx24 fx25) rfl (Nat.le_of_eq rfl) rfl (by decide) (memsS (mi 0 rfl) mems0) ?_)))
  intro fv26 ph27 K28 fq29
  obtain ⟨rfl, fx30, fx31, fx32⟩ := fq29
  refine ⟨[], fresh0, ?_⟩
  show Go l _ Z _ _ _ κ _ _ 71 _ [(.ref b18)] 1 2
  refine ob1' C (v := (.ref b18)) d6_71 rfl rfl rfl (by decide) (by decide) ?_
  exact ⟨b18, rfl, fx30, fx31, fx32⟩
theorem ct_oft0 (l : Launch) (Z : State) (a0 : Array Value) (hw : HW a0 Z) {one t1 zero t0 pos neg : Addr} {k1 k0 kp kn : ClassId} {pvs nvs : List Value} (am : Amb Z a0 one t1 zero t0 pos neg k1 k0 kp kn pvs nvs) {v : Int64} {h0 : Heap} (hv : v = (0 : Int64)) :
    Py l Z (⟨"com/example/slicewise/slicewise/Fraction", "of", "(JJ)Lcom/example/slicewise/slicewise/Fraction;"⟩ : MethodName) 8 127 12 33 #[(.long v), (.long (1 : Int64))] h0 [] (fun rv h' => ∃ (f : Addr), rv = some (.ref f) ∧ Exa Z h' f "com/example/slicewise/slicewise/Fraction" ∧ Fld Z h' f "com/example/slicewise/slicewise/Fraction" "numerator" "Ljava/math/BigInteger;" (.ref zero) ∧ Fld Z h' f "com/example/slicewise/slicewise/Fraction" "denominator" "Ljava/math/BigInteger;" (.ref one)) := by
  refine Ct.py (by0 := y40) (ml := 4) (rt := (some (.object "com/example/slicewise/slicewise/Fraction"))) (rm := ({ frames := 7, cells := 12, slots := 33, locals := 112 } : Room)) ?_ (hq hw 25 rfl) (hq hw 2 rfl)
  refine Ct.mk (a0 := a0) (Ls := #[.val (.long v), .second, .val (.long (1 : Int64)), .second]) (plainFor_of_name pn_com_example_slicewise_slicewise_Fraction) (fun m => by simp [entryFrame, mkF, argsToLocals, Value.category]) ?_
  intro κ C
  show Go l _ Z _ _ _ κ [] h0 0 #[.val (.long v), .second, .val (.long (1 : Int64)), .second] [] 0 0
  refine ou' C 1 d5_0 rfl rfl (oc1' C (argsL := [(.long v)]) (W := 0) d5_1 (hq hw 6 rfl) (hq hw 7 rfl) (hq hw 8 rfl) (hq hw 9 rfl) (by decide) pd__J_Ljava_math_BigInteger_ (ct_v0 l Z a0 hw am (v := v) hv) rfl (Nat.le_of_eq rfl) rfl (by decide) mems0 ?_)
  intro fv1 ph2 K3 fq4
  obtain ⟨rfl, rfl⟩ := fq4
  refine ⟨[], fresh0, ?_⟩
  show Go l _ Z _ _ _ κ _ _ 4 _ [(.ref zero)] 0 0
  refine ou' C 5 d5_4 rfl rfl (oc1' C (argsL := [(.long (1 : Int64))]) (W := 1) d5_5 (hq hw 6 rfl) (hq hw 7 rfl) (hq hw 8 rfl) (hq hw 9 rfl) (by decide) pd__J_Ljava_math_BigInteger_ (ct_vone l Z a0 hw am) rfl (Nat.le_of_eq rfl) rfl (by decide) mems0 ?_)
  intro fv5 ph6 K7 fq8
  obtain ⟨rfl, rfl⟩ := fq8
  refine ⟨[], fresh0, ?_⟩
  show Go l _ Z _ _ _ κ _ _ 8 _ [(.ref one), (.ref zero)] 0 0
  refine oc1' C (argsL := [(.ref zero), (.ref one)]) (W := 0) d5_8 (hq hw 26 rfl) (hq hw 27 rfl) (hq hw 2 rfl) (hq hw 28 rfl) (by decide) pd__Ljava_math_BigInteger_Ljava_math_BigInteger__Lcom_example_slicewise_slicewise_Fraction_ (ct_ofB0 l Z a0 hw am) rfl (Nat.le_of_eq rfl) rfl (by decide) mems0 ?_
  intro fv9 ph10 K11 fq12
  obtain ⟨f13, rfl, fx14, fx15, fx16⟩ := fq12
  refine ⟨[], fresh0, ?_⟩
  show Go l _ Z _ _ _ κ _ _ 11 _ [(.ref f13)] 1 2
  refine ob1' C (v := (.ref f13)) d5_11 rfl rfl rfl (by decide) (by decide) ?_
  exact ⟨f13, rfl, fx14, fx15, fx16⟩
theorem ct_feq0 (l : Launch) (Z : State) (a0 : Array Value) (hw : HW a0 Z) {one t1 zero t0 pos neg : Addr} {k1 k0 kp kn : ClassId} {pvs nvs : List Value} (am : Amb Z a0 one t1 zero t0 pos neg k1 k0 kp kn pvs nvs) {f d : Addr} {h0 : Heap} (p0 : Exa Z h0 f "com/example/slicewise/slicewise/Fraction") (p1 : Fld Z h0 f "com/example/slicewise/slicewise/Fraction" "numerator" "Ljava/math/BigInteger;" (.ref zero)) (p2 : Fld Z h0 f "com/example/slicewise/slicewise/Fraction" "denominator" "Ljava/math/BigInteger;" (.ref one)) (p3 : Exa Z h0 d "com/example/slicewise/slicewise/Fraction") (p4 : Fld Z h0 d "com/example/slicewise/slicewise/Fraction" "numerator" "Ljava/math/BigInteger;" (.ref zero)) (p5 : Fld Z h0 d "com/example/slicewise/slicewise/Fraction" "denominator" "Ljava/math/BigInteger;" (.ref one)) :
    Py l Z (⟨"com/example/slicewise/slicewise/Fraction", "equals", "(Ljava/lang/Object;)Z"⟩ : MethodName) 2 31 0 0 #[(.ref f), (.ref d)] h0 [] (fun rv h' => rv = some (.int 1) ∧ h' = h0) := by
  refine Ct.py (by0 := y37) (ml := 2) (rt := (some .boolean)) (rm := ({ frames := 1, cells := 0, slots := 0, locals := 18 } : Room)) ?_ (hq hw 187 rfl) (hq hw 2 rfl)
  refine Ct.mk (a0 := a0) (Ls := #[.val (.ref f), .val (.ref d)]) (plainFor_of_name pn_com_example_slicewise_slicewise_Fraction) (fun m => by simp [entryFrame, mkF, argsToLocals, Value.category]) ?_
  intro κ C
  show Go l _ Z _ _ _ κ [] h0 0 #[.val (.ref f), .val (.ref d)] [] 0 0
  refine od' C 1 d32_0 rfl rfl rfl (oz1' C 4 d32_1 rfl (hq hw 4 rfl) (Ins.self p3) (or' C 7 d32_4 rfl (by decide) (od' C 8 d32_7 rfl rfl rfl (og' C 11 d32_8 rfl (hq hw 19 rfl) Via.refl p1 ?_))))
  refine od' C 12 d32_11 rfl rfl rfl (os1' C 15 d32_12 rfl (hq hw 4 rfl) (Ins.self p3) (og' C 18 d32_15 rfl (hq hw 19 rfl) Via.refl p4 ?_))
  refine og1' ?_
  intro O1 zO1
  refine oq' C (a := zero) (argsL := [(.ref zero)]) (W := 0) d32_18 (hq hw 133 rfl) (hq hw 134 rfl) (nfS (hq hw 136 rfl)) (hq hw 136 rfl) (hq hw 135 rfl) (Exa.ext O1 am.2.2.2.2.2.2.2.2.2.1) (by decide) pd__Ljava_lang_Object__Z (ct_beq0 l Z a0 hw am (a := zero) (b := zero) (t := t0) (u := t0) (kt := k0) (ku := k0) (g := (0 : Int32)) (f := (0 : Int32)) (Exa.ext O1 am.2.2.2.2.2.2.2.2.2.1) (Fld.ext O1 am.2.2.2.2.2.2.2.2.2.2.1) (Fld.ext O1 am.2.2.2.2.2.2.2.2.2.2.2.1) (am.2.2.2.2.2.2.2.2.2.2.2.2.1.ext O1) (Exa.ext O1 am.2.2.2.2.2.2.2.2.2.1) (Fld.ext O1 am.2.2.2.2.2.2.2.2.2.2.1) (Fld.ext O1 am.2.2.2.2.2.2.2.2.2.2.2.1) (am.2.2.2.2.2.2.2.2.2.2.2.2.1.ext O1) rfl) rfl (Nat.le_of_eq rfl) rfl (by decide) mems0 ?_
  intro fv2 ph3 K4 fq5
  obtain ⟨rfl, rfl⟩ := fq5
  refine ⟨[], fresh0, ?_⟩
  show Go l _ Z _ _ _ κ _ _ 21 _ [.int 1] 0 0
  refine or' C 24 d32_21 rfl (by decide) (od' C 25 d32_24 rfl rfl rfl (og' C 28 d32_25 rfl (hq hw 21 rfl) Via.refl p2 (od' C 29 d32_28 rfl rfl rfl (os1' C 32 d32_29 rfl (hq hw 4 rfl) (Ins.self p3) ?_))))
  refine og' C 35 d32_32 rfl (hq hw 21 rfl) Via.refl p5 (oq' C (a := one) (argsL := [(.ref one)]) (W := 0) d32_35 (hq hw 133 rfl) (hq hw 134 rfl) (nfS (hq hw 136 rfl)) (hq hw 136 rfl) (hq hw 135 rfl) (Exa.ext O1 am.2.2.2.2.1) (by decide) pd__Ljava_lang_Object__Z (ct_beq1 l Z a0 hw am (a := one) (b := one) (t := t1) (u := t1) (kt := k1) (ku := k1) (x0 := (1 : Int32)) (y0 := (1 : Int32)) (g := (1 : Int32)) (f := (1 : Int32)) (Exa.ext O1 am.2.2.2.2.1) (Fld.ext O1 am.2.2.2.2.2.1) (Fld.ext O1 am.2.2.2.2.2.2.1) (am.2.2.2.2.2.2.2.1.ext O1) (Exa.ext O1 am.2.2.2.2.1) (Fld.ext O1 am.2.2.2.2.2.1) (Fld.ext O1 am.2.2.2.2.2.2.1) (am.2.2.2.2.2.2.2.1.ext O1) rfl rfl) rfl (Nat.le_of_eq rfl) rfl (by decide) mems0 ?_)
  intro fv6 ph7 K8 fq9
  obtain ⟨rfl, rfl⟩ := fq9
  refine ⟨[], fresh0, ?_⟩
  show Go l _ Z _ _ _ κ _ _ 38 _ [.int 1] 0 0
  refine or' C 41 d32_38 rfl (by decide) (oe' C 42 (1 : Int32) d32_41 rfl (by decide) (os' C (pc' := 46) d32_42 (by decide) (by decide) (om1' C (t := .boolean) (z := (1 : Int32)) d32_46 rfl (by decide) (by decide) (by decide) (by decide) ?_)))
  exact ⟨rfl, rfl⟩
theorem ct_fsg0 (l : Launch) (Z : State) (a0 : Array Value) (hw : HW a0 Z) {one t1 zero t0 pos neg : Addr} {k1 k0 kp kn : ClassId} {pvs nvs : List Value} (am : Amb Z a0 one t1 zero t0 pos neg k1 k0 kp kn pvs nvs) {f : Addr} {h0 : Heap} (p0 : Exa Z h0 f "com/example/slicewise/slicewise/Fraction") (p1 : Fld Z h0 f "com/example/slicewise/slicewise/Fraction" "numerator" "Ljava/math/BigInteger;" (.ref zero)) (p2 : Fld Z h0 f "com/example/slicewise/slicewise/Fraction" "denominator" "Ljava/math/BigInteger;" (.ref one)) :
    Py l Z (⟨"com/example/slicewise/slicewise/Fraction", "signum", "()I"⟩ : MethodName) 2 24 0 0 #[(.ref f)] h0 [] (fun rv h' => rv = some (.int 0) ∧ h' = h0) := by
  refine Ct.py (by0 := y34) (ml := 1) (rt := (some .int)) (rm := ({ frames := 1, cells := 0, slots := 0, locals := 12 } : Room)) ?_ (hq hw 193 rfl) (hq hw 2 rfl)
  refine Ct.mk (a0 := a0) (Ls := #[.val (.ref f)]) (plainFor_of_name pn_com_example_slicewise_slicewise_Fraction) (fun m => by simp [entryFrame, mkF, argsToLocals, Value.category]) ?_
  intro κ C
  show Go l _ Z _ _ _ κ [] h0 0 #[.val (.ref f)] [] 0 0
  refine od' C 1 d33_0 rfl rfl rfl (og' C 4 d33_1 rfl (hq hw 19 rfl) Via.refl p1 ?_)
  refine og1' ?_
  intro O1 zO1
  refine oq' C (a := zero) (argsL := []) (W := 0) d33_4 (hq hw 29 rfl) (hq hw 30 rfl) (nfS (hq hw 32 rfl)) (hq hw 32 rfl) (hq hw 31 rfl) (Exa.ext O1 am.2.2.2.2.2.2.2.2.2.1) (by decide) pd___I (ct_bsg l Z a0 hw am (a := zero) (g := (0 : Int32)) (Fld.ext O1 am.2.2.2.2.2.2.2.2.2.2.1)) rfl (Nat.le_of_eq rfl) rfl (by decide) mems0 ?_
  intro fv2 ph3 K4 fq5
  obtain ⟨rfl, rfl⟩ := fq5
  refine ⟨[], fresh0, ?_⟩
  show Go l _ Z _ _ _ κ _ _ 7 _ [.int 0] 0 0
  refine op' C d33_7 rfl (by decide) (by decide) ?_
  exact ⟨rfl, rfl⟩
theorem ct_of1 (l : Launch) (Z : State) (a0 : Array Value) (hw : HW a0 Z) {one t1 zero t0 pos neg : Addr} {k1 k0 kp kn : ClassId} {pvs nvs : List Value} (am : Amb Z a0 one t1 zero t0 pos neg k1 k0 kp kn pvs nvs) {v : Int64} {h0 : Heap} (hv : ¬ (v = (0 : Int64))) (hh : hiv v = (0 : Int32)) :
    Py l Z (⟨"com/example/slicewise/slicewise/Fraction", "of", "(J)Lcom/example/slicewise/slicewise/Fraction;"⟩ : MethodName) 5 68 3 10 #[(.long v)] h0 [] (fun rv h' => ∃ (f : Addr) (a : Addr) (t : Addr) (kt : ClassId), rv = some (.ref f) ∧ Exa Z h' f "com/example/slicewise/slicewise/Fraction" ∧ Fld Z h' f "com/example/slicewise/slicewise/Fraction" "numerator" "Ljava/math/BigInteger;" (.ref a) ∧ Fld Z h' f "com/example/slicewise/slicewise/Fraction" "denominator" "Ljava/math/BigInteger;" (.ref one) ∧ Exa Z h' a "java/math/BigInteger" ∧ Fld Z h' a "java/math/BigInteger" "signum" "I" (.int (sgv v)) ∧ Fld Z h' a "java/math/BigInteger" "mag" "[I" (.ref t) ∧ Arv Z h' t kt .int 1 [(.int (lov v))] (.int 0) ∧ Exa Z h' t "[I") := by
  refine Ct.py (by0 := y39) (ml := 2) (rt := (some (.object "com/example/slicewise/slicewise/Fraction"))) (rm := ({ frames := 4, cells := 3, slots := 10, locals := 55 } : Room)) ?_ (hq hw 3 rfl) (hq hw 2 rfl)
  refine Ct.mk (a0 := a0) (Ls := #[.val (.long v), .second]) (plainFor_of_name pn_com_example_slicewise_slicewise_Fraction) (fun m => by simp [entryFrame, mkF, argsToLocals, Value.category]) ?_
  intro κ C
  show Go l _ Z _ _ _ κ [] h0 0 #[.val (.long v), .second] [] 0 0
  refine ok1' C 3 1 2 d1_0 rfl rfl rfl (hq hw 4 rfl) (hq hw 5 rfl) (hq hw 2 rfl) (by decide) (by decide) ?_
  intro b1 ph2 g3 E4 A5 D6
  have fx7 : Fld Z ph2 b1 "com/example/slicewise/slicewise/Fraction" "numerator" "Ljava/math/BigInteger;" .null := D6 (Or.inr (hq hw 20 rfl)) (ty := (.object "java/math/BigInteger")) (by decide)
  have fx8 : Fld Z ph2 b1 "com/example/slicewise/slicewise/Fraction" "denominator" "Ljava/math/BigInteger;" .null := D6 (Or.inr (hq hw 22 rfl)) (ty := (.object "java/math/BigInteger")) (by decide)
  refine of1' C 4 d1_3 rfl rfl (ou' C 5 d1_4 rfl rfl (oc1' C (argsL := [(.long v)]) (W := 2) d1_5 (hq hw 6 rfl) (hq hw 7 rfl) (hq hw 8 rfl) (hq hw 9 rfl) (by decide) pd__J_Ljava_math_BigInteger_ (ct_v1 l Z a0 hw am (v := v) hv hh) rfl (Nat.le_of_eq rfl) rfl (by decide) mems0 ?_))
  intro fv9 ph10 K11 fq12
  obtain ⟨a13, t14, kt15, rfl, fx16, fx17, fx18, fx19, fx20⟩ := fq12
  refine ⟨[], fresh0, ?_⟩
  show Go l _ Z _ _ _ κ _ _ 8 _ [(.ref a13), (.ref b1), (.ref b1)] 3 9
  refine ot1' C 11 d1_8 rfl (hq hw 12 rfl) am.1 ?_
  have fx21 := (A5.keep K11)
  have fx22 := (fx7.keep K11 nin0)
  have fx23 := (fx8.keep K11 nin0)
  refine ol1' C (a := b1) (argsL := [(.ref a13), (.ref one)]) (W := 1) d1_11 rfl (hq hw 13 rfl) (hq hw 14 rfl) (hq hw 15 rfl) (by decide) pd__Ljava_math_BigInteger_Ljava_math_BigInteger__V (ct_fri l Z a0 hw am (f := b1) (a := a13) (b := one) fx21 fx22 fx23) rfl (Nat.le_of_eq rfl) rfl (by decide) (memsS (mi 0 rfl) mems0) ?_
  intro fv24 ph25 K26 fq27
  obtain ⟨rfl, fx28, fx29, fx30⟩ := fq27
  refine ⟨[], fresh0, ?_⟩
  show Go l _ Z _ _ _ κ _ _ 14 _ [(.ref b1)] 3 9
  refine ob1' C (v := (.ref b1)) d1_14 rfl rfl rfl (by decide) (by decide) ?_
  have fx31 := (fx16.keep K26)
  have fx32 := (fx17.keep K26 (ninS (Exa.ne fx16 (A5.keep K11) (by decide)) nin0))
  have fx33 := (fx18.keep K26 (ninS (Exa.ne fx16 (A5.keep K11) (by decide)) nin0))
  have fx34 := (fx19.keep K26 (ninS (Exa.ne fx20 (A5.keep K11) (by decide)) nin0))
  have fx35 := (fx20.keep K26)
  exact ⟨b1, a13, t14, kt15, rfl, fx28, fx29, fx30, fx31, fx32, fx33, fx34, fx35⟩
theorem ct_ofB1 (l : Launch) (Z : State) (a0 : Array Value) (hw : HW a0 Z) {one t1 zero t0 pos neg : Addr} {k1 k0 kp kn : ClassId} {pvs nvs : List Value} (am : Amb Z a0 one t1 zero t0 pos neg k1 k0 kp kn pvs nvs) {a t : Addr} {kt : ClassId} {x g : Int32} {h0 : Heap} (p0 : Exa Z h0 a "java/math/BigInteger") (p1 : Fld Z h0 a "java/math/BigInteger" "signum" "I" (.int g)) (p2 : Fld Z h0 a "java/math/BigInteger" "mag" "[I" (.ref t)) (p3 : Arv Z h0 t kt .int 1 [.int x] (.int 0)) (p4 : Exa Z h0 t "[I") (hg : ¬ (g = (0 : Int32))) (hx : ¬ (x = (0 : Int32))) :
    Py l Z (⟨"com/example/slicewise/slicewise/Fraction", "of", "(Ljava/math/BigInteger;Ljava/math/BigInteger;)Lcom/example/slicewise/slicewise/Fraction;"⟩ : MethodName) 7 112 10 24 #[(.ref a), (.ref one)] h0 [] (fun rv h' => ∃ (f : Addr), rv = some (.ref f) ∧ Exa Z h' f "com/example/slicewise/slicewise/Fraction" ∧ Fld Z h' f "com/example/slicewise/slicewise/Fraction" "numerator" "Ljava/math/BigInteger;" (.ref a) ∧ Fld Z h' f "com/example/slicewise/slicewise/Fraction" "denominator" "Ljava/math/BigInteger;" (.ref one) ∧ Exa Z h' a "java/math/BigInteger" ∧ Fld Z h' a "java/math/BigInteger" "signum" "I" (.int g) ∧ Fld Z h' a "java/math/BigInteger" "mag" "[I" (.ref t) ∧ Arv Z h' t kt .int 1 [.int x] (.int 0) ∧ Exa Z h' t "[I") := by
  refine Ct.py (by0 := y38) (ml := 3) (rt := (some (.object "com/example/slicewise/slicewise/Fraction"))) (rm := ({ frames := 6, cells := 10, slots := 24, locals := 98 } : Room)) ?_ (hq hw 28 rfl) (hq hw 2 rfl)
  refine Ct.mk (a0 := a0) (Ls := #[.val (.ref a), .val (.ref one), .unset]) (plainFor_of_name pn_com_example_slicewise_slicewise_Fraction) (fun m => by simp [entryFrame, mkF, argsToLocals, Value.category]) ?_
  intro κ C
  show Go l _ Z _ _ _ κ [] h0 0 #[.val (.ref a), .val (.ref one), .unset] [] 0 0
  refine od' C 1 d6_0 rfl rfl rfl ?_
  refine og1' ?_
  intro O1 zO1
  refine oq' C (a := one) (argsL := []) (W := 0) d6_1 (hq hw 29 rfl) (hq hw 30 rfl) (nfS (hq hw 32 rfl)) (hq hw 32 rfl) (hq hw 31 rfl) (Exa.ext O1 am.2.2.2.2.1) (by decide) pd___I (ct_bsg l Z a0 hw am (a := one) (g := (1 : Int32)) (Fld.ext O1 am.2.2.2.2.2.1)) rfl (Nat.le_of_eq rfl) rfl (by decide) mems0 ?_
  intro fv2 ph3 K4 fq5
  obtain ⟨rfl, rfl⟩ := fq5
  refine ⟨[], fresh0, ?_⟩
  show Go l _ Z _ _ _ κ _ _ 4 _ [.int 1] 0 0
  refine on' C (pc' := 17) d6_4 (by decide) (by decide) (by decide) (od' C 18 d6_17 rfl rfl rfl (oq' C (a := one) (argsL := []) (W := 0) d6_18 (hq hw 29 rfl) (hq hw 30 rfl) (nfS (hq hw 32 rfl)) (hq hw 32 rfl) (hq hw 31 rfl) (Exa.ext O1 am.2.2.2.2.1) (by decide) pd___I (ct_bsg l Z a0 hw am (a := one) (g := (1 : Int32)) (Fld.ext O1 am.2.2.2.2.2.1)) rfl (Nat.le_of_eq rfl) rfl (by decide) mems0 ?_))
  intro fv6 ph7 K8 fq9
  obtain ⟨rfl, rfl⟩ := fq9
  refine ⟨[], fresh0, ?_⟩
  show Go l _ Z _ _ _ κ _ _ 21 _ [.int 1] 0 0
  refine on' C (pc' := 34) d6_21 (by decide) (by decide) (by decide) (od' C 35 d6_34 rfl rfl rfl (od' C 36 d6_35 rfl rfl rfl (oq' C (a := a) (argsL := [(.ref one)]) (W := 0) d6_36 (hq hw 36 rfl) (hq hw 37 rfl) (nfS (hq hw 39 rfl)) (hq hw 39 rfl) (hq hw 38 rfl) p0 (by decide) pd__Ljava_math_BigInteger__Ljava_math_BigInteger_ (ct_g1 l Z a0 hw am (a := a) (t := t) (kt := kt) (x := x) (g := g) p0 p1 p2 p3 p4 hg hx) rfl (Nat.le_of_eq rfl) rfl (by decide) mems0 ?_)))
  intro fv10 ph11 K12 fq13
  obtain ⟨o14, rt15, kr16, rfl, fx17, fx18, fx19, fx20⟩ := fq13
  refine ⟨[], fresh0, ?_⟩
  show Go l _ Z _ _ _ κ _ _ 39 _ [(.ref o14)] 9 22
  refine oj1' C 40 (Ls' := #[.val (.ref a), .val (.ref one), .val (.ref o14)]) d6_39 rfl rfl rfl (od' C 41 d6_40 rfl rfl rfl (ot1' C 44 d6_41 rfl (hq hw 12 rfl) am.1 ?_))
  refine og1' ?_
  intro O21 zO21
  refine oq' C (a := o14) (argsL := [(.ref one)]) (W := 0) d6_44 (hq hw 133 rfl) (hq hw 134 rfl) (nfS (hq hw 136 rfl)) (hq hw 136 rfl) (hq hw 135 rfl) fx17 (by decide) pd__Ljava_lang_Object__Z (ct_beq1 l Z a0 hw am (a := o14) (b := one) (t := rt15) (u := t1) (kt := kr16) (ku := k1) (x0 := (1 : Int32)) (y0 := (1 : Int32)) (g := (1 : Int32)) (f := (1 : Int32)) fx17 fx18 fx19 fx20 (Exa.ext O21 am.2.2.2.2.1) (Fld.ext O21 am.2.2.2.2.2.1) (Fld.ext O21 am.2.2.2.2.2.2.1) (am.2.2.2.2.2.2.2.1.ext O21) rfl rfl) rfl (Nat.le_of_eq rfl) rfl (by decide) mems0 ?_
  intro fv22 ph23 K24 fq25
  obtain ⟨rfl, rfl⟩ := fq25
  refine ⟨[], fresh0, ?_⟩
  show Go l _ Z _ _ _ κ _ _ 47 _ [.int 1] 9 22
  refine on' C (pc' := 62) d6_47 (by decide) (by decide) (by decide) (ok1' C 65 10 24 d6_62 rfl rfl rfl (hq hw 4 rfl) (hq hw 5 rfl) (hq hw 2 rfl) (by decide) (by decide) ?_)
  intro b26 ph27 g28 E29 A30 D31
  have fx32 : Fld Z ph27 b26 "com/example/slicewise/slicewise/Fraction" "numerator" "Ljava/math/BigInteger;" .null := D31 (Or.inr (hq hw 20 rfl)) (ty := (.object "java/math/BigInteger")) (by decide)
  have fx33 : Fld Z ph27 b26 "com/example/slicewise/slicewise/Fraction" "denominator" "Ljava/math/BigInteger;" .null := D31 (Or.inr (hq hw 22 rfl)) (ty := (.object "java/math/BigInteger")) (by decide)
  refine of1' C 66 d6_65 rfl rfl (od' C 67 d6_66 rfl rfl rfl (od' C 68 d6_67 rfl rfl rfl (ol1' C (a := b26) (argsL := [(.ref a), (.ref one)]) (W := 1) d6_68 rfl (hq hw 13 rfl) (hq hw 14 rfl) (hq hw 15 rfl) (by decide) pd__Ljava_math_BigInteger_Ljava_math_BigInteger__V (ct_fri l Z a0 hw am (f := b26) (a := a) (b := one) A30 fx32 fx33) rfl (Nat.le_of_eq rfl) rfl (by decide) (memsS (mi 0 rfl) mems0) ?_)))
  intro fv34 ph35 K36 fq37
  obtain ⟨rfl, fx38, fx39, fx40⟩ := fq37
  refine ⟨[], fresh0, ?_⟩
  show Go l _ Z _ _ _ κ _ _ 71 _ [(.ref b26)] 10 24
  refine ob1' C (v := (.ref b26)) d6_71 rfl rfl rfl (by decide) (by decide) ?_
  have fx41 := ((Exa.ext E29 (p0.keep K12)).keep K36)
  have fx42 := ((Fld.ext E29 (p1.keep K12 nin0)).keep K36 (ninS (Nat.ne_of_lt (nltle (nltle (p0).lt K12.1) (Nat.le_of_eq g28.symm))) nin0))
  have fx43 := ((Fld.ext E29 (p2.keep K12 nin0)).keep K36 (ninS (Nat.ne_of_lt (nltle (nltle (p0).lt K12.1) (Nat.le_of_eq g28.symm))) nin0))
  have fx44 := (((p3.keep K12 nin0).ext E29).keep K36 (ninS (Nat.ne_of_lt (nltle (nltle (p3).lt K12.1) (Nat.le_of_eq g28.symm))) nin0))
  have fx45 := ((Exa.ext E29 (p4.keep K12)).keep K36)
  exact ⟨b26, rfl, fx38, fx39, fx40, fx41, fx42, fx43, fx44, fx45⟩
theorem ct_oft1 (l : Launch) (Z : State) (a0 : Array Value) (hw : HW a0 Z) {one t1 zero t0 pos neg : Addr} {k1 k0 kp kn : ClassId} {pvs nvs : List Value} (am : Amb Z a0 one t1 zero t0 pos neg k1 k0 kp kn pvs nvs) {v : Int64} {h0 : Heap} (hv : ¬ (v = (0 : Int64))) (hh : hiv v = (0 : Int32)) :
    Py l Z (⟨"com/example/slicewise/slicewise/Fraction", "of", "(JJ)Lcom/example/slicewise/slicewise/Fraction;"⟩ : MethodName) 8 127 12 33 #[(.long v), (.long (1 : Int64))] h0 [] (fun rv h' => ∃ (f : Addr) (a : Addr) (t : Addr) (kt : ClassId), rv = some (.ref f) ∧ Exa Z h' f "com/example/slicewise/slicewise/Fraction" ∧ Fld Z h' f "com/example/slicewise/slicewise/Fraction" "numerator" "Ljava/math/BigInteger;" (.ref a) ∧ Fld Z h' f "com/example/slicewise/slicewise/Fraction" "denominator" "Ljava/math/BigInteger;" (.ref one) ∧ Exa Z h' a "java/math/BigInteger" ∧ Fld Z h' a "java/math/BigInteger" "signum" "I" (.int (sgv v)) ∧ Fld Z h' a "java/math/BigInteger" "mag" "[I" (.ref t) ∧ Arv Z h' t kt .int 1 [(.int (lov v))] (.int 0) ∧ Exa Z h' t "[I") := by
  refine Ct.py (by0 := y40) (ml := 4) (rt := (some (.object "com/example/slicewise/slicewise/Fraction"))) (rm := ({ frames := 7, cells := 12, slots := 33, locals := 112 } : Room)) ?_ (hq hw 25 rfl) (hq hw 2 rfl)
  refine Ct.mk (a0 := a0) (Ls := #[.val (.long v), .second, .val (.long (1 : Int64)), .second]) (plainFor_of_name pn_com_example_slicewise_slicewise_Fraction) (fun m => by simp [entryFrame, mkF, argsToLocals, Value.category]) ?_
  intro κ C
  show Go l _ Z _ _ _ κ [] h0 0 #[.val (.long v), .second, .val (.long (1 : Int64)), .second] [] 0 0
  refine ou' C 1 d5_0 rfl rfl (oc1' C (argsL := [(.long v)]) (W := 0) d5_1 (hq hw 6 rfl) (hq hw 7 rfl) (hq hw 8 rfl) (hq hw 9 rfl) (by decide) pd__J_Ljava_math_BigInteger_ (ct_v1 l Z a0 hw am (v := v) hv hh) rfl (Nat.le_of_eq rfl) rfl (by decide) mems0 ?_)
  intro fv1 ph2 K3 fq4
  obtain ⟨a5, t6, kt7, rfl, fx8, fx9, fx10, fx11, fx12⟩ := fq4
  refine ⟨[], fresh0, ?_⟩
  show Go l _ Z _ _ _ κ _ _ 4 _ [(.ref a5)] 2 7
  refine ou' C 5 d5_4 rfl rfl (oc1' C (argsL := [(.long (1 : Int64))]) (W := 1) d5_5 (hq hw 6 rfl) (hq hw 7 rfl) (hq hw 8 rfl) (hq hw 9 rfl) (by decide) pd__J_Ljava_math_BigInteger_ (ct_vone l Z a0 hw am) rfl (Nat.le_of_eq rfl) rfl (by decide) mems0 ?_)
  intro fv13 ph14 K15 fq16
  obtain ⟨rfl, rfl⟩ := fq16
  refine ⟨[], fresh0, ?_⟩
  show Go l _ Z _ _ _ κ _ _ 8 _ [(.ref one), (.ref a5)] 2 7
  refine oc1' C (argsL := [(.ref a5), (.ref one)]) (W := 0) d5_8 (hq hw 26 rfl) (hq hw 27 rfl) (hq hw 2 rfl) (hq hw 28 rfl) (by decide) pd__Ljava_math_BigInteger_Ljava_math_BigInteger__Lcom_example_slicewise_slicewise_Fraction_ (ct_ofB1 l Z a0 hw am (a := a5) (t := t6) (kt := kt7) (x := (lov v)) (g := (sgv v)) fx8 fx9 fx10 fx11 fx12 (sgv_ne _) (lov_ne hv hh)) rfl (Nat.le_of_eq rfl) rfl (by decide) mems0 ?_
  intro fv17 ph18 K19 fq20
  obtain ⟨f21, rfl, fx22, fx23, fx24, fx25, fx26, fx27, fx28, fx29⟩ := fq20
  refine ⟨[], fresh0, ?_⟩
  show Go l _ Z _ _ _ κ _ _ 11 _ [(.ref f21)] 12 31
  refine ob1' C (v := (.ref f21)) d5_11 rfl rfl rfl (by decide) (by decide) ?_
  exact ⟨f21, a5, t6, kt7, rfl, fx22, fx23, fx24, fx25, fx26, fx27, fx28, fx29⟩
theorem ct_feq1 (l : Launch) (Z : State) (a0 : Array Value) (hw : HW a0 Z) {one t1 zero t0 pos neg : Addr} {k1 k0 kp kn : ClassId} {pvs nvs : List Value} (am : Amb Z a0 one t1 zero t0 pos neg k1 k0 kp kn pvs nvs) {f d a b t u : Addr} {kt ku : ClassId} {v w : Int64} {h0 : Heap} (p0 : Exa Z h0 f "com/example/slicewise/slicewise/Fraction") (p1 : Fld Z h0 f "com/example/slicewise/slicewise/Fraction" "numerator" "Ljava/math/BigInteger;" (.ref a)) (p2 : Fld Z h0 f "com/example/slicewise/slicewise/Fraction" "denominator" "Ljava/math/BigInteger;" (.ref one)) (p3 : Exa Z h0 a "java/math/BigInteger") (p4 : Fld Z h0 a "java/math/BigInteger" "signum" "I" (.int (sgv v))) (p5 : Fld Z h0 a "java/math/BigInteger" "mag" "[I" (.ref t)) (p6 : Arv Z h0 t kt .int 1 [(.int (lov v))] (.int 0)) (p7 : Exa Z h0 t "[I") (p8 : Exa Z h0 d "com/example/slicewise/slicewise/Fraction") (p9 : Fld Z h0 d "com/example/slicewise/slicewise/Fraction" "numerator" "Ljava/math/BigInteger;" (.ref b)) (p10 : Fld Z h0 d "com/example/slicewise/slicewise/Fraction" "denominator" "Ljava/math/BigInteger;" (.ref one)) (p11 : Exa Z h0 b "java/math/BigInteger") (p12 : Fld Z h0 b "java/math/BigInteger" "signum" "I" (.int (sgv w))) (p13 : Fld Z h0 b "java/math/BigInteger" "mag" "[I" (.ref u)) (p14 : Arv Z h0 u ku .int 1 [(.int (lov w))] (.int 0)) (p15 : Exa Z h0 u "[I") (evw : w = v) :
    Py l Z (⟨"com/example/slicewise/slicewise/Fraction", "equals", "(Ljava/lang/Object;)Z"⟩ : MethodName) 2 31 0 0 #[(.ref f), (.ref d)] h0 [] (fun rv h' => rv = some (.int 1) ∧ h' = h0) := by
  refine Ct.py (by0 := y37) (ml := 2) (rt := (some .boolean)) (rm := ({ frames := 1, cells := 0, slots := 0, locals := 18 } : Room)) ?_ (hq hw 187 rfl) (hq hw 2 rfl)
  refine Ct.mk (a0 := a0) (Ls := #[.val (.ref f), .val (.ref d)]) (plainFor_of_name pn_com_example_slicewise_slicewise_Fraction) (fun m => by simp [entryFrame, mkF, argsToLocals, Value.category]) ?_
  intro κ C
  show Go l _ Z _ _ _ κ [] h0 0 #[.val (.ref f), .val (.ref d)] [] 0 0
  refine od' C 1 d32_0 rfl rfl rfl (oz1' C 4 d32_1 rfl (hq hw 4 rfl) (Ins.self p8) (or' C 7 d32_4 rfl (by decide) (od' C 8 d32_7 rfl rfl rfl (og' C 11 d32_8 rfl (hq hw 19 rfl) Via.refl p1 ?_))))
  refine od' C 12 d32_11 rfl rfl rfl (os1' C 15 d32_12 rfl (hq hw 4 rfl) (Ins.self p8) (og' C 18 d32_15 rfl (hq hw 19 rfl) Via.refl p9 (oq' C (a := a) (argsL := [(.ref b)]) (W := 0) d32_18 (hq hw 133 rfl) (hq hw 134 rfl) (nfS (hq hw 136 rfl)) (hq hw 136 rfl) (hq hw 135 rfl) p3 (by decide) pd__Ljava_lang_Object__Z (ct_beq1 l Z a0 hw am (a := a) (b := b) (t := t) (u := u) (kt := kt) (ku := ku) (x0 := (lov v)) (y0 := (lov w)) (g := (sgv v)) (f := (sgv w)) p3 p4 p5 p6 p11 p12 p13 p14 (congrArg sgv evw) (congrArg lov evw)) rfl (Nat.le_of_eq rfl) rfl (by decide) mems0 ?_)))
  intro fv1 ph2 K3 fq4
  obtain ⟨rfl, rfl⟩ := fq4
  refine ⟨[], fresh0, ?_⟩
  show Go l _ Z _ _ _ κ _ _ 21 _ [.int 1] 0 0
  refine or' C 24 d32_21 rfl (by decide) (od' C 25 d32_24 rfl rfl rfl (og' C 28 d32_25 rfl (hq hw 21 rfl) Via.refl p2 (od' C 29 d32_28 rfl rfl rfl (os1' C 32 d32_29 rfl (hq hw 4 rfl) (Ins.self p8) ?_))))
  refine og' C 35 d32_32 rfl (hq hw 21 rfl) Via.refl p10 ?_
  refine og1' ?_
  intro O5 zO5
  refine oq' C (a := one) (argsL := [(.ref one)]) (W := 0) d32_35 (hq hw 133 rfl) (hq hw 134 rfl) (nfS (hq hw 136 rfl)) (hq hw 136 rfl) (hq hw 135 rfl) (Exa.ext O5 am.2.2.2.2.1) (by decide) pd__Ljava_lang_Object__Z (ct_beq1 l Z a0 hw am (a := one) (b := one) (t := t1) (u := t1) (kt := k1) (ku := k1) (x0 := (1 : Int32)) (y0 := (1 : Int32)) (g := (1 : Int32)) (f := (1 : Int32)) (Exa.ext O5 am.2.2.2.2.1) (Fld.ext O5 am.2.2.2.2.2.1) (Fld.ext O5 am.2.2.2.2.2.2.1) (am.2.2.2.2.2.2.2.1.ext O5) (Exa.ext O5 am.2.2.2.2.1) (Fld.ext O5 am.2.2.2.2.2.1) (Fld.ext O5 am.2.2.2.2.2.2.1) (am.2.2.2.2.2.2.2.1.ext O5) rfl rfl) rfl (Nat.le_of_eq rfl) rfl (by decide) mems0 ?_
  intro fv6 ph7 K8 fq9
  obtain ⟨rfl, rfl⟩ := fq9
  refine ⟨[], fresh0, ?_⟩
  show Go l _ Z _ _ _ κ _ _ 38 _ [.int 1] 0 0
  refine or' C 41 d32_38 rfl (by decide) (oe' C 42 (1 : Int32) d32_41 rfl (by decide) (os' C (pc' := 46) d32_42 (by decide) (by decide) (om1' C (t := .boolean) (z := (1 : Int32)) d32_46 rfl (by decide) (by decide) (by decide) (by decide) ?_)))
  exact ⟨rfl, rfl⟩
theorem ct_fsg1 (l : Launch) (Z : State) (a0 : Array Value) (hw : HW a0 Z) {one t1 zero t0 pos neg : Addr} {k1 k0 kp kn : ClassId} {pvs nvs : List Value} (am : Amb Z a0 one t1 zero t0 pos neg k1 k0 kp kn pvs nvs) {f a t : Addr} {kt : ClassId} {v : Int64} {h0 : Heap} (p0 : Exa Z h0 f "com/example/slicewise/slicewise/Fraction") (p1 : Fld Z h0 f "com/example/slicewise/slicewise/Fraction" "numerator" "Ljava/math/BigInteger;" (.ref a)) (p2 : Fld Z h0 f "com/example/slicewise/slicewise/Fraction" "denominator" "Ljava/math/BigInteger;" (.ref one)) (p3 : Exa Z h0 a "java/math/BigInteger") (p4 : Fld Z h0 a "java/math/BigInteger" "signum" "I" (.int (sgv v))) (p5 : Fld Z h0 a "java/math/BigInteger" "mag" "[I" (.ref t)) (p6 : Arv Z h0 t kt .int 1 [(.int (lov v))] (.int 0)) (p7 : Exa Z h0 t "[I") :
    Py l Z (⟨"com/example/slicewise/slicewise/Fraction", "signum", "()I"⟩ : MethodName) 2 24 0 0 #[(.ref f)] h0 [] (fun rv h' => rv = some (.int (sgv v)) ∧ h' = h0) := by
  refine Ct.py (by0 := y34) (ml := 1) (rt := (some .int)) (rm := ({ frames := 1, cells := 0, slots := 0, locals := 12 } : Room)) ?_ (hq hw 193 rfl) (hq hw 2 rfl)
  refine Ct.mk (a0 := a0) (Ls := #[.val (.ref f)]) (plainFor_of_name pn_com_example_slicewise_slicewise_Fraction) (fun m => by simp [entryFrame, mkF, argsToLocals, Value.category]) ?_
  intro κ C
  show Go l _ Z _ _ _ κ [] h0 0 #[.val (.ref f)] [] 0 0
  refine od' C 1 d33_0 rfl rfl rfl (og' C 4 d33_1 rfl (hq hw 19 rfl) Via.refl p1 (oq' C (a := a) (argsL := []) (W := 0) d33_4 (hq hw 29 rfl) (hq hw 30 rfl) (nfS (hq hw 32 rfl)) (hq hw 32 rfl) (hq hw 31 rfl) p3 (by decide) pd___I (ct_bsg l Z a0 hw am (a := a) (g := (sgv v)) p4) rfl (Nat.le_of_eq rfl) rfl (by decide) mems0 ?_))
  intro fv1 ph2 K3 fq4
  obtain ⟨rfl, rfl⟩ := fq4
  refine ⟨[], fresh0, ?_⟩
  show Go l _ Z _ _ _ κ _ _ 7 _ [(.int (sgv v))] 0 0
  refine op' C d33_7 rfl (by decide) (by decide) ?_
  exact ⟨rfl, rfl⟩
theorem ct_of2 (l : Launch) (Z : State) (a0 : Array Value) (hw : HW a0 Z) {one t1 zero t0 pos neg : Addr} {k1 k0 kp kn : ClassId} {pvs nvs : List Value} (am : Amb Z a0 one t1 zero t0 pos neg k1 k0 kp kn pvs nvs) {v : Int64} {h0 : Heap} (hv : ¬ (v = (0 : Int64))) (hh : ¬ (hiv v = (0 : Int32))) :
    Py l Z (⟨"com/example/slicewise/slicewise/Fraction", "of", "(J)Lcom/example/slicewise/slicewise/Fraction;"⟩ : MethodName) 5 68 3 10 #[(.long v)] h0 [] (fun rv h' => ∃ (f : Addr) (a : Addr) (t : Addr) (kt : ClassId), rv = some (.ref f) ∧ Exa Z h' f "com/example/slicewise/slicewise/Fraction" ∧ Fld Z h' f "com/example/slicewise/slicewise/Fraction" "numerator" "Ljava/math/BigInteger;" (.ref a) ∧ Fld Z h' f "com/example/slicewise/slicewise/Fraction" "denominator" "Ljava/math/BigInteger;" (.ref one) ∧ Exa Z h' a "java/math/BigInteger" ∧ Fld Z h' a "java/math/BigInteger" "signum" "I" (.int (sgv v)) ∧ Fld Z h' a "java/math/BigInteger" "mag" "[I" (.ref t) ∧ Arv Z h' t kt .int 2 [(.int (hiv v)), (.int (lov v))] (.int 0) ∧ Exa Z h' t "[I") := by
  refine Ct.py (by0 := y39) (ml := 2) (rt := (some (.object "com/example/slicewise/slicewise/Fraction"))) (rm := ({ frames := 4, cells := 3, slots := 10, locals := 55 } : Room)) ?_ (hq hw 3 rfl) (hq hw 2 rfl)
  refine Ct.mk (a0 := a0) (Ls := #[.val (.long v), .second]) (plainFor_of_name pn_com_example_slicewise_slicewise_Fraction) (fun m => by simp [entryFrame, mkF, argsToLocals, Value.category]) ?_
  intro κ C
  show Go l _ Z _ _ _ κ [] h0 0 #[.val (.long v), .second] [] 0 0
  refine ok1' C 3 1 2 d1_0 rfl rfl rfl (hq hw 4 rfl) (hq hw 5 rfl) (hq hw 2 rfl) (by decide) (by decide) ?_
  intro b1 ph2 g3 E4 A5 D6
  have fx7 : Fld Z ph2 b1 "com/example/slicewise/slicewise/Fraction" "numerator" "Ljava/math/BigInteger;" .null := D6 (Or.inr (hq hw 20 rfl)) (ty := (.object "java/math/BigInteger")) (by decide)
  have fx8 : Fld Z ph2 b1 "com/example/slicewise/slicewise/Fraction" "denominator" "Ljava/math/BigInteger;" .null := D6 (Or.inr (hq hw 22 rfl)) (ty := (.object "java/math/BigInteger")) (by decide)
  refine of1' C 4 d1_3 rfl rfl (ou' C 5 d1_4 rfl rfl (oc1' C (argsL := [(.long v)]) (W := 2) d1_5 (hq hw 6 rfl) (hq hw 7 rfl) (hq hw 8 rfl) (hq hw 9 rfl) (by decide) pd__J_Ljava_math_BigInteger_ (ct_v2 l Z a0 hw am (v := v) hv hh) rfl (Nat.le_of_eq rfl) rfl (by decide) mems0 ?_))
  intro fv9 ph10 K11 fq12
  obtain ⟨a13, t14, kt15, rfl, fx16, fx17, fx18, fx19, fx20⟩ := fq12
  refine ⟨[], fresh0, ?_⟩
  show Go l _ Z _ _ _ κ _ _ 8 _ [(.ref a13), (.ref b1), (.ref b1)] 3 10
  refine ot1' C 11 d1_8 rfl (hq hw 12 rfl) am.1 ?_
  have fx21 := (A5.keep K11)
  have fx22 := (fx7.keep K11 nin0)
  have fx23 := (fx8.keep K11 nin0)
  refine ol1' C (a := b1) (argsL := [(.ref a13), (.ref one)]) (W := 1) d1_11 rfl (hq hw 13 rfl) (hq hw 14 rfl) (hq hw 15 rfl) (by decide) pd__Ljava_math_BigInteger_Ljava_math_BigInteger__V (ct_fri l Z a0 hw am (f := b1) (a := a13) (b := one) fx21 fx22 fx23) rfl (Nat.le_of_eq rfl) rfl (by decide) (memsS (mi 0 rfl) mems0) ?_
  intro fv24 ph25 K26 fq27
  obtain ⟨rfl, fx28, fx29, fx30⟩ := fq27
  refine ⟨[], fresh0, ?_⟩
  show Go l _ Z _ _ _ κ _ _ 14 _ [(.ref b1)] 3 10
  refine ob1' C (v := (.ref b1)) d1_14 rfl rfl rfl (by decide) (by decide) ?_
  have fx31 := (fx16.keep K26)
  have fx32 := (fx17.keep K26 (ninS (Exa.ne fx16 (A5.keep K11) (by decide)) nin0))
  have fx33 := (fx18.keep K26 (ninS (Exa.ne fx16 (A5.keep K11) (by decide)) nin0))
  have fx34 := (fx19.keep K26 (ninS (Exa.ne fx20 (A5.keep K11) (by decide)) nin0))
  have fx35 := (fx20.keep K26)
  exact ⟨b1, a13, t14, kt15, rfl, fx28, fx29, fx30, fx31, fx32, fx33, fx34, fx35⟩
theorem ct_ofB2 (l : Launch) (Z : State) (a0 : Array Value) (hw : HW a0 Z) {one t1 zero t0 pos neg : Addr} {k1 k0 kp kn : ClassId} {pvs nvs : List Value} (am : Amb Z a0 one t1 zero t0 pos neg k1 k0 kp kn pvs nvs) {a t : Addr} {kt : ClassId} {m0 m1 g : Int32} {h0 : Heap} (p0 : Exa Z h0 a "java/math/BigInteger") (p1 : Fld Z h0 a "java/math/BigInteger" "signum" "I" (.int g)) (p2 : Fld Z h0 a "java/math/BigInteger" "mag" "[I" (.ref t)) (p3 : Arv Z h0 t kt .int 2 [.int m0, .int m1] (.int 0)) (p4 : Exa Z h0 t "[I") (hg : ¬ (g = (0 : Int32))) (h0z : ¬ (m0 = (0 : Int32))) :
    Py l Z (⟨"com/example/slicewise/slicewise/Fraction", "of", "(Ljava/math/BigInteger;Ljava/math/BigInteger;)Lcom/example/slicewise/slicewise/Fraction;"⟩ : MethodName) 7 112 10 25 #[(.ref a), (.ref one)] h0 [] (fun rv h' => ∃ (f : Addr), rv = some (.ref f) ∧ Exa Z h' f "com/example/slicewise/slicewise/Fraction" ∧ Fld Z h' f "com/example/slicewise/slicewise/Fraction" "numerator" "Ljava/math/BigInteger;" (.ref a) ∧ Fld Z h' f "com/example/slicewise/slicewise/Fraction" "denominator" "Ljava/math/BigInteger;" (.ref one) ∧ Exa Z h' a "java/math/BigInteger" ∧ Fld Z h' a "java/math/BigInteger" "signum" "I" (.int g) ∧ Fld Z h' a "java/math/BigInteger" "mag" "[I" (.ref t) ∧ Arv Z h' t kt .int 2 [.int m0, .int m1] (.int 0) ∧ Exa Z h' t "[I") := by
  refine Ct.py (by0 := y38) (ml := 3) (rt := (some (.object "com/example/slicewise/slicewise/Fraction"))) (rm := ({ frames := 6, cells := 10, slots := 25, locals := 98 } : Room)) ?_ (hq hw 28 rfl) (hq hw 2 rfl)
  refine Ct.mk (a0 := a0) (Ls := #[.val (.ref a), .val (.ref one), .unset]) (plainFor_of_name pn_com_example_slicewise_slicewise_Fraction) (fun m => by simp [entryFrame, mkF, argsToLocals, Value.category]) ?_
  intro κ C
  show Go l _ Z _ _ _ κ [] h0 0 #[.val (.ref a), .val (.ref one), .unset] [] 0 0
  refine od' C 1 d6_0 rfl rfl rfl ?_
  refine og1' ?_
  intro O1 zO1
  refine oq' C (a := one) (argsL := []) (W := 0) d6_1 (hq hw 29 rfl) (hq hw 30 rfl) (nfS (hq hw 32 rfl)) (hq hw 32 rfl) (hq hw 31 rfl) (Exa.ext O1 am.2.2.2.2.1) (by decide) pd___I (ct_bsg l Z a0 hw am (a := one) (g := (1 : Int32)) (Fld.ext O1 am.2.2.2.2.2.1)) rfl (Nat.le_of_eq rfl) rfl (by decide) mems0 ?_
  intro fv2 ph3 K4 fq5
  obtain ⟨rfl, rfl⟩ := fq5
  refine ⟨[], fresh0, ?_⟩
  show Go l _ Z _ _ _ κ _ _ 4 _ [.int 1] 0 0
  refine on' C (pc' := 17) d6_4 (by decide) (by decide) (by decide) (od' C 18 d6_17 rfl rfl rfl (oq' C (a := one) (argsL := []) (W := 0) d6_18 (hq hw 29 rfl) (hq hw 30 rfl) (nfS (hq hw 32 rfl)) (hq hw 32 rfl) (hq hw 31 rfl) (Exa.ext O1 am.2.2.2.2.1) (by decide) pd___I (ct_bsg l Z a0 hw am (a := one) (g := (1 : Int32)) (Fld.ext O1 am.2.2.2.2.2.1)) rfl (Nat.le_of_eq rfl) rfl (by decide) mems0 ?_))
  intro fv6 ph7 K8 fq9
  obtain ⟨rfl, rfl⟩ := fq9
  refine ⟨[], fresh0, ?_⟩
  show Go l _ Z _ _ _ κ _ _ 21 _ [.int 1] 0 0
  refine on' C (pc' := 34) d6_21 (by decide) (by decide) (by decide) (od' C 35 d6_34 rfl rfl rfl (od' C 36 d6_35 rfl rfl rfl (oq' C (a := a) (argsL := [(.ref one)]) (W := 0) d6_36 (hq hw 36 rfl) (hq hw 37 rfl) (nfS (hq hw 39 rfl)) (hq hw 39 rfl) (hq hw 38 rfl) p0 (by decide) pd__Ljava_math_BigInteger__Ljava_math_BigInteger_ (ct_g2 l Z a0 hw am (a := a) (t := t) (kt := kt) (m0 := m0) (m1 := m1) (g := g) p0 p1 p2 p3 p4 hg h0z) rfl (Nat.le_of_eq rfl) rfl (by decide) mems0 ?_)))
  intro fv10 ph11 K12 fq13
  obtain ⟨o14, rt15, kr16, rfl, fx17, fx18, fx19, fx20⟩ := fq13
  refine ⟨[], fresh0, ?_⟩
  show Go l _ Z _ _ _ κ _ _ 39 _ [(.ref o14)] 9 23
  refine oj1' C 40 (Ls' := #[.val (.ref a), .val (.ref one), .val (.ref o14)]) d6_39 rfl rfl rfl (od' C 41 d6_40 rfl rfl rfl (ot1' C 44 d6_41 rfl (hq hw 12 rfl) am.1 ?_))
  refine og1' ?_
  intro O21 zO21
  refine oq' C (a := o14) (argsL := [(.ref one)]) (W := 0) d6_44 (hq hw 133 rfl) (hq hw 134 rfl) (nfS (hq hw 136 rfl)) (hq hw 136 rfl) (hq hw 135 rfl) fx17 (by decide) pd__Ljava_lang_Object__Z (ct_beq1 l Z a0 hw am (a := o14) (b := one) (t := rt15) (u := t1) (kt := kr16) (ku := k1) (x0 := (1 : Int32)) (y0 := (1 : Int32)) (g := (1 : Int32)) (f := (1 : Int32)) fx17 fx18 fx19 fx20 (Exa.ext O21 am.2.2.2.2.1) (Fld.ext O21 am.2.2.2.2.2.1) (Fld.ext O21 am.2.2.2.2.2.2.1) (am.2.2.2.2.2.2.2.1.ext O21) rfl rfl) rfl (Nat.le_of_eq rfl) rfl (by decide) mems0 ?_
  intro fv22 ph23 K24 fq25
  obtain ⟨rfl, rfl⟩ := fq25
  refine ⟨[], fresh0, ?_⟩
  show Go l _ Z _ _ _ κ _ _ 47 _ [.int 1] 9 23
  refine on' C (pc' := 62) d6_47 (by decide) (by decide) (by decide) (ok1' C 65 10 25 d6_62 rfl rfl rfl (hq hw 4 rfl) (hq hw 5 rfl) (hq hw 2 rfl) (by decide) (by decide) ?_)
  intro b26 ph27 g28 E29 A30 D31
  have fx32 : Fld Z ph27 b26 "com/example/slicewise/slicewise/Fraction" "numerator" "Ljava/math/BigInteger;" .null := D31 (Or.inr (hq hw 20 rfl)) (ty := (.object "java/math/BigInteger")) (by decide)
  have fx33 : Fld Z ph27 b26 "com/example/slicewise/slicewise/Fraction" "denominator" "Ljava/math/BigInteger;" .null := D31 (Or.inr (hq hw 22 rfl)) (ty := (.object "java/math/BigInteger")) (by decide)
  refine of1' C 66 d6_65 rfl rfl (od' C 67 d6_66 rfl rfl rfl (od' C 68 d6_67 rfl rfl rfl (ol1' C (a := b26) (argsL := [(.ref a), (.ref one)]) (W := 1) d6_68 rfl (hq hw 13 rfl) (hq hw 14 rfl) (hq hw 15 rfl) (by decide) pd__Ljava_math_BigInteger_Ljava_math_BigInteger__V (ct_fri l Z a0 hw am (f := b26) (a := a) (b := one) A30 fx32 fx33) rfl (Nat.le_of_eq rfl) rfl (by decide) (memsS (mi 0 rfl) mems0) ?_)))
  intro fv34 ph35 K36 fq37
  obtain ⟨rfl, fx38, fx39, fx40⟩ := fq37
  refine ⟨[], fresh0, ?_⟩
  show Go l _ Z _ _ _ κ _ _ 71 _ [(.ref b26)] 10 25
  refine ob1' C (v := (.ref b26)) d6_71 rfl rfl rfl (by decide) (by decide) ?_
  have fx41 := ((Exa.ext E29 (p0.keep K12)).keep K36)
  have fx42 := ((Fld.ext E29 (p1.keep K12 nin0)).keep K36 (ninS (Nat.ne_of_lt (nltle (nltle (p0).lt K12.1) (Nat.le_of_eq g28.symm))) nin0))
  have fx43 := ((Fld.ext E29 (p2.keep K12 nin0)).keep K36 (ninS (Nat.ne_of_lt (nltle (nltle (p0).lt K12.1) (Nat.le_of_eq g28.symm))) nin0))
  have fx44 := (((p3.keep K12 nin0).ext E29).keep K36 (ninS (Nat.ne_of_lt (nltle (nltle (p3).lt K12.1) (Nat.le_of_eq g28.symm))) nin0))
  have fx45 := ((Exa.ext E29 (p4.keep K12)).keep K36)
  exact ⟨b26, rfl, fx38, fx39, fx40, fx41, fx42, fx43, fx44, fx45⟩
theorem ct_oft2 (l : Launch) (Z : State) (a0 : Array Value) (hw : HW a0 Z) {one t1 zero t0 pos neg : Addr} {k1 k0 kp kn : ClassId} {pvs nvs : List Value} (am : Amb Z a0 one t1 zero t0 pos neg k1 k0 kp kn pvs nvs) {v : Int64} {h0 : Heap} (hv : ¬ (v = (0 : Int64))) (hh : ¬ (hiv v = (0 : Int32))) :
    Py l Z (⟨"com/example/slicewise/slicewise/Fraction", "of", "(JJ)Lcom/example/slicewise/slicewise/Fraction;"⟩ : MethodName) 8 127 12 33 #[(.long v), (.long (1 : Int64))] h0 [] (fun rv h' => ∃ (f : Addr) (a : Addr) (t : Addr) (kt : ClassId), rv = some (.ref f) ∧ Exa Z h' f "com/example/slicewise/slicewise/Fraction" ∧ Fld Z h' f "com/example/slicewise/slicewise/Fraction" "numerator" "Ljava/math/BigInteger;" (.ref a) ∧ Fld Z h' f "com/example/slicewise/slicewise/Fraction" "denominator" "Ljava/math/BigInteger;" (.ref one) ∧ Exa Z h' a "java/math/BigInteger" ∧ Fld Z h' a "java/math/BigInteger" "signum" "I" (.int (sgv v)) ∧ Fld Z h' a "java/math/BigInteger" "mag" "[I" (.ref t) ∧ Arv Z h' t kt .int 2 [(.int (hiv v)), (.int (lov v))] (.int 0) ∧ Exa Z h' t "[I") := by
  refine Ct.py (by0 := y40) (ml := 4) (rt := (some (.object "com/example/slicewise/slicewise/Fraction"))) (rm := ({ frames := 7, cells := 12, slots := 33, locals := 112 } : Room)) ?_ (hq hw 25 rfl) (hq hw 2 rfl)
  refine Ct.mk (a0 := a0) (Ls := #[.val (.long v), .second, .val (.long (1 : Int64)), .second]) (plainFor_of_name pn_com_example_slicewise_slicewise_Fraction) (fun m => by simp [entryFrame, mkF, argsToLocals, Value.category]) ?_
  intro κ C
  show Go l _ Z _ _ _ κ [] h0 0 #[.val (.long v), .second, .val (.long (1 : Int64)), .second] [] 0 0
  refine ou' C 1 d5_0 rfl rfl (oc1' C (argsL := [(.long v)]) (W := 0) d5_1 (hq hw 6 rfl) (hq hw 7 rfl) (hq hw 8 rfl) (hq hw 9 rfl) (by decide) pd__J_Ljava_math_BigInteger_ (ct_v2 l Z a0 hw am (v := v) hv hh) rfl (Nat.le_of_eq rfl) rfl (by decide) mems0 ?_)
  intro fv1 ph2 K3 fq4
  obtain ⟨a5, t6, kt7, rfl, fx8, fx9, fx10, fx11, fx12⟩ := fq4
  refine ⟨[], fresh0, ?_⟩
  show Go l _ Z _ _ _ κ _ _ 4 _ [(.ref a5)] 2 8
  refine ou' C 5 d5_4 rfl rfl (oc1' C (argsL := [(.long (1 : Int64))]) (W := 1) d5_5 (hq hw 6 rfl) (hq hw 7 rfl) (hq hw 8 rfl) (hq hw 9 rfl) (by decide) pd__J_Ljava_math_BigInteger_ (ct_vone l Z a0 hw am) rfl (Nat.le_of_eq rfl) rfl (by decide) mems0 ?_)
  intro fv13 ph14 K15 fq16
  obtain ⟨rfl, rfl⟩ := fq16
  refine ⟨[], fresh0, ?_⟩
  show Go l _ Z _ _ _ κ _ _ 8 _ [(.ref one), (.ref a5)] 2 8
  refine oc1' C (argsL := [(.ref a5), (.ref one)]) (W := 0) d5_8 (hq hw 26 rfl) (hq hw 27 rfl) (hq hw 2 rfl) (hq hw 28 rfl) (by decide) pd__Ljava_math_BigInteger_Ljava_math_BigInteger__Lcom_example_slicewise_slicewise_Fraction_ (ct_ofB2 l Z a0 hw am (a := a5) (t := t6) (kt := kt7) (m0 := (hiv v)) (m1 := (lov v)) (g := (sgv v)) fx8 fx9 fx10 fx11 fx12 (sgv_ne _) hh) rfl (Nat.le_of_eq rfl) rfl (by decide) mems0 ?_
  intro fv17 ph18 K19 fq20
  obtain ⟨f21, rfl, fx22, fx23, fx24, fx25, fx26, fx27, fx28, fx29⟩ := fq20
  refine ⟨[], fresh0, ?_⟩
  show Go l _ Z _ _ _ κ _ _ 11 _ [(.ref f21)] 12 33
  refine ob1' C (v := (.ref f21)) d5_11 rfl rfl rfl (by decide) (by decide) ?_
  exact ⟨f21, a5, t6, kt7, rfl, fx22, fx23, fx24, fx25, fx26, fx27, fx28, fx29⟩
theorem ct_feq2 (l : Launch) (Z : State) (a0 : Array Value) (hw : HW a0 Z) {one t1 zero t0 pos neg : Addr} {k1 k0 kp kn : ClassId} {pvs nvs : List Value} (am : Amb Z a0 one t1 zero t0 pos neg k1 k0 kp kn pvs nvs) {f d a b t u : Addr} {kt ku : ClassId} {v w : Int64} {h0 : Heap} (p0 : Exa Z h0 f "com/example/slicewise/slicewise/Fraction") (p1 : Fld Z h0 f "com/example/slicewise/slicewise/Fraction" "numerator" "Ljava/math/BigInteger;" (.ref a)) (p2 : Fld Z h0 f "com/example/slicewise/slicewise/Fraction" "denominator" "Ljava/math/BigInteger;" (.ref one)) (p3 : Exa Z h0 a "java/math/BigInteger") (p4 : Fld Z h0 a "java/math/BigInteger" "signum" "I" (.int (sgv v))) (p5 : Fld Z h0 a "java/math/BigInteger" "mag" "[I" (.ref t)) (p6 : Arv Z h0 t kt .int 2 [(.int (hiv v)), (.int (lov v))] (.int 0)) (p7 : Exa Z h0 t "[I") (p8 : Exa Z h0 d "com/example/slicewise/slicewise/Fraction") (p9 : Fld Z h0 d "com/example/slicewise/slicewise/Fraction" "numerator" "Ljava/math/BigInteger;" (.ref b)) (p10 : Fld Z h0 d "com/example/slicewise/slicewise/Fraction" "denominator" "Ljava/math/BigInteger;" (.ref one)) (p11 : Exa Z h0 b "java/math/BigInteger") (p12 : Fld Z h0 b "java/math/BigInteger" "signum" "I" (.int (sgv w))) (p13 : Fld Z h0 b "java/math/BigInteger" "mag" "[I" (.ref u)) (p14 : Arv Z h0 u ku .int 2 [(.int (hiv w)), (.int (lov w))] (.int 0)) (p15 : Exa Z h0 u "[I") (evw : w = v) :
    Py l Z (⟨"com/example/slicewise/slicewise/Fraction", "equals", "(Ljava/lang/Object;)Z"⟩ : MethodName) 2 31 0 0 #[(.ref f), (.ref d)] h0 [] (fun rv h' => rv = some (.int 1) ∧ h' = h0) := by
  refine Ct.py (by0 := y37) (ml := 2) (rt := (some .boolean)) (rm := ({ frames := 1, cells := 0, slots := 0, locals := 18 } : Room)) ?_ (hq hw 187 rfl) (hq hw 2 rfl)
  refine Ct.mk (a0 := a0) (Ls := #[.val (.ref f), .val (.ref d)]) (plainFor_of_name pn_com_example_slicewise_slicewise_Fraction) (fun m => by simp [entryFrame, mkF, argsToLocals, Value.category]) ?_
  intro κ C
  show Go l _ Z _ _ _ κ [] h0 0 #[.val (.ref f), .val (.ref d)] [] 0 0
  refine od' C 1 d32_0 rfl rfl rfl (oz1' C 4 d32_1 rfl (hq hw 4 rfl) (Ins.self p8) (or' C 7 d32_4 rfl (by decide) (od' C 8 d32_7 rfl rfl rfl (og' C 11 d32_8 rfl (hq hw 19 rfl) Via.refl p1 ?_))))
  refine od' C 12 d32_11 rfl rfl rfl (os1' C 15 d32_12 rfl (hq hw 4 rfl) (Ins.self p8) (og' C 18 d32_15 rfl (hq hw 19 rfl) Via.refl p9 (oq' C (a := a) (argsL := [(.ref b)]) (W := 0) d32_18 (hq hw 133 rfl) (hq hw 134 rfl) (nfS (hq hw 136 rfl)) (hq hw 136 rfl) (hq hw 135 rfl) p3 (by decide) pd__Ljava_lang_Object__Z (ct_beq2 l Z a0 hw am (a := a) (b := b) (t := t) (u := u) (kt := kt) (ku := ku) (x0 := (hiv v)) (x1 := (lov v)) (y0 := (hiv w)) (y1 := (lov w)) (g := (sgv v)) (f := (sgv w)) p3 p4 p5 p6 p11 p12 p13 p14 (congrArg sgv evw) (congrArg hiv evw) (congrArg lov evw)) rfl (Nat.le_of_eq rfl) rfl (by decide) mems0 ?_)))
  intro fv1 ph2 K3 fq4
  obtain ⟨rfl, rfl⟩ := fq4
  refine ⟨[], fresh0, ?_⟩
  show Go l _ Z _ _ _ κ _ _ 21 _ [.int 1] 0 0
  refine or' C 24 d32_21 rfl (by decide) (od' C 25 d32_24 rfl rfl rfl (og' C 28 d32_25 rfl (hq hw 21 rfl) Via.refl p2 (od' C 29 d32_28 rfl rfl rfl (os1' C 32 d32_29 rfl (hq hw 4 rfl) (Ins.self p8) ?_))))
  refine og' C 35 d32_32 rfl (hq hw 21 rfl) Via.refl p10 ?_
  refine og1' ?_
  intro O5 zO5
  refine oq' C (a := one) (argsL := [(.ref one)]) (W := 0) d32_35 (hq hw 133 rfl) (hq hw 134 rfl) (nfS (hq hw 136 rfl)) (hq hw 136 rfl) (hq hw 135 rfl) (Exa.ext O5 am.2.2.2.2.1) (by decide) pd__Ljava_lang_Object__Z (ct_beq1 l Z a0 hw am (a := one) (b := one) (t := t1) (u := t1) (kt := k1) (ku := k1) (x0 := (1 : Int32)) (y0 := (1 : Int32)) (g := (1 : Int32)) (f := (1 : Int32)) (Exa.ext O5 am.2.2.2.2.1) (Fld.ext O5 am.2.2.2.2.2.1) (Fld.ext O5 am.2.2.2.2.2.2.1) (am.2.2.2.2.2.2.2.1.ext O5) (Exa.ext O5 am.2.2.2.2.1) (Fld.ext O5 am.2.2.2.2.2.1) (Fld.ext O5 am.2.2.2.2.2.2.1) (am.2.2.2.2.2.2.2.1.ext O5) rfl rfl) rfl (Nat.le_of_eq rfl) rfl (by decide) mems0 ?_
  intro fv6 ph7 K8 fq9
  obtain ⟨rfl, rfl⟩ := fq9
  refine ⟨[], fresh0, ?_⟩
  show Go l _ Z _ _ _ κ _ _ 38 _ [.int 1] 0 0
  refine or' C 41 d32_38 rfl (by decide) (oe' C 42 (1 : Int32) d32_41 rfl (by decide) (os' C (pc' := 46) d32_42 (by decide) (by decide) (om1' C (t := .boolean) (z := (1 : Int32)) d32_46 rfl (by decide) (by decide) (by decide) (by decide) ?_)))
  exact ⟨rfl, rfl⟩
theorem ct_fsg2 (l : Launch) (Z : State) (a0 : Array Value) (hw : HW a0 Z) {one t1 zero t0 pos neg : Addr} {k1 k0 kp kn : ClassId} {pvs nvs : List Value} (am : Amb Z a0 one t1 zero t0 pos neg k1 k0 kp kn pvs nvs) {f a t : Addr} {kt : ClassId} {v : Int64} {h0 : Heap} (p0 : Exa Z h0 f "com/example/slicewise/slicewise/Fraction") (p1 : Fld Z h0 f "com/example/slicewise/slicewise/Fraction" "numerator" "Ljava/math/BigInteger;" (.ref a)) (p2 : Fld Z h0 f "com/example/slicewise/slicewise/Fraction" "denominator" "Ljava/math/BigInteger;" (.ref one)) (p3 : Exa Z h0 a "java/math/BigInteger") (p4 : Fld Z h0 a "java/math/BigInteger" "signum" "I" (.int (sgv v))) (p5 : Fld Z h0 a "java/math/BigInteger" "mag" "[I" (.ref t)) (p6 : Arv Z h0 t kt .int 2 [(.int (hiv v)), (.int (lov v))] (.int 0)) (p7 : Exa Z h0 t "[I") :
    Py l Z (⟨"com/example/slicewise/slicewise/Fraction", "signum", "()I"⟩ : MethodName) 2 24 0 0 #[(.ref f)] h0 [] (fun rv h' => rv = some (.int (sgv v)) ∧ h' = h0) := by
  refine Ct.py (by0 := y34) (ml := 1) (rt := (some .int)) (rm := ({ frames := 1, cells := 0, slots := 0, locals := 12 } : Room)) ?_ (hq hw 193 rfl) (hq hw 2 rfl)
  refine Ct.mk (a0 := a0) (Ls := #[.val (.ref f)]) (plainFor_of_name pn_com_example_slicewise_slicewise_Fraction) (fun m => by simp [entryFrame, mkF, argsToLocals, Value.category]) ?_
  intro κ C
  show Go l _ Z _ _ _ κ [] h0 0 #[.val (.ref f)] [] 0 0
  refine od' C 1 d33_0 rfl rfl rfl (og' C 4 d33_1 rfl (hq hw 19 rfl) Via.refl p1 (oq' C (a := a) (argsL := []) (W := 0) d33_4 (hq hw 29 rfl) (hq hw 30 rfl) (nfS (hq hw 32 rfl)) (hq hw 32 rfl) (hq hw 31 rfl) p3 (by decide) pd___I (ct_bsg l Z a0 hw am (a := a) (g := (sgv v)) p4) rfl (Nat.le_of_eq rfl) rfl (by decide) mems0 ?_))
  intro fv1 ph2 K3 fq4
  obtain ⟨rfl, rfl⟩ := fq4
  refine ⟨[], fresh0, ?_⟩
  show Go l _ Z _ _ _ κ _ _ 7 _ [(.int (sgv v))] 0 0
  refine op' C d33_7 rfl (by decide) (by decide) ?_
  exact ⟨rfl, rfl⟩
theorem ct_fc00 (l : Launch) (Z : State) (a0 : Array Value) (hw : HW a0 Z) {one t1 zero t0 pos neg : Addr} {k1 k0 kp kn : ClassId} {pvs nvs : List Value} (am : Amb Z a0 one t1 zero t0 pos neg k1 k0 kp kn pvs nvs) {f d : Addr} {h0 : Heap} (p0 : Exa Z h0 f "com/example/slicewise/slicewise/Fraction") (p1 : Fld Z h0 f "com/example/slicewise/slicewise/Fraction" "numerator" "Ljava/math/BigInteger;" (.ref zero)) (p2 : Fld Z h0 f "com/example/slicewise/slicewise/Fraction" "denominator" "Ljava/math/BigInteger;" (.ref one)) (p3 : Exa Z h0 d "com/example/slicewise/slicewise/Fraction") (p4 : Fld Z h0 d "com/example/slicewise/slicewise/Fraction" "numerator" "Ljava/math/BigInteger;" (.ref zero)) (p5 : Fld Z h0 d "com/example/slicewise/slicewise/Fraction" "denominator" "Ljava/math/BigInteger;" (.ref one)) :
    Py l Z (⟨"com/example/slicewise/slicewise/Fraction", "compareTo", "(Lcom/example/slicewise/slicewise/Fraction;)I"⟩ : MethodName) 7 112 4 16 #[(.ref f), (.ref d)] h0 [] (fun rv h' => ∃ (r : Int32), rv = some (.int r) ∧ ((r = (-1 : Int32) ∧ (0 : Int) < (0 : Int)) ∨ (r = (0 : Int32) ∧ (0 : Int) = (0 : Int)) ∨ (r = (1 : Int32) ∧ (0 : Int) < (0 : Int)))) := by
  refine Ct.py (by0 := y35) (ml := 2) (rt := (some .int)) (rm := ({ frames := 6, cells := 4, slots := 16, locals := 99 } : Room)) ?_ (hq hw 143 rfl) (hq hw 2 rfl)
  refine Ct.mk (a0 := a0) (Ls := #[.val (.ref f), .val (.ref d)]) (plainFor_of_name pn_com_example_slicewise_slicewise_Fraction) (fun m => by simp [entryFrame, mkF, argsToLocals, Value.category]) ?_
  intro κ C
  show Go l _ Z _ _ _ κ [] h0 0 #[.val (.ref f), .val (.ref d)] [] 0 0
  refine od' C 1 d24_0 rfl rfl rfl (og' C 4 d24_1 rfl (hq hw 19 rfl) Via.refl p1 (od' C 5 d24_4 rfl rfl rfl (og' C 8 d24_5 rfl (hq hw 21 rfl) Via.refl p5 ?_)))
  refine og1' ?_
  intro O1 zO1
  refine oq' C (a := zero) (argsL := [(.ref one)]) (W := 0) d24_8 (hq hw 144 rfl) (hq hw 145 rfl) (nfS (hq hw 147 rfl)) (hq hw 147 rfl) (hq hw 146 rfl) (Exa.ext O1 am.2.2.2.2.2.2.2.2.2.1) (by decide) pd__Ljava_math_BigInteger__Ljava_math_BigInteger_ (ct_mul0 l Z a0 hw am) rfl (Nat.le_of_eq rfl) rfl (by decide) mems0 ?_
  intro fv2 ph3 K4 fq5
  obtain ⟨rfl, rfl⟩ := fq5
  refine ⟨[], fresh0, ?_⟩
  show Go l _ Z _ _ _ κ _ _ 11 _ [(.ref zero)] 0 0
  refine od' C 12 d24_11 rfl rfl rfl (og' C 15 d24_12 rfl (hq hw 19 rfl) Via.refl p4 (od' C 16 d24_15 rfl rfl rfl (og' C 19 d24_16 rfl (hq hw 21 rfl) Via.refl p2 (oq' C (a := zero) (argsL := [(.ref one)]) (W := 1) d24_19 (hq hw 144 rfl) (hq hw 145 rfl) (nfS (hq hw 147 rfl)) (hq hw 147 rfl) (hq hw 146 rfl) (Exa.ext O1 am.2.2.2.2.2.2.2.2.2.1) (by decide) pd__Ljava_math_BigInteger__Ljava_math_BigInteger_ (ct_mul0 l Z a0 hw am) rfl (Nat.le_of_eq rfl) rfl (by decide) mems0 ?_))))
  intro fv6 ph7 K8 fq9
  obtain ⟨rfl, rfl⟩ := fq9
  refine ⟨[], fresh0, ?_⟩
  show Go l _ Z _ _ _ κ _ _ 22 _ [(.ref zero), (.ref zero)] 0 0
  refine oq' C (a := zero) (argsL := [(.ref zero)]) (W := 0) d24_22 (hq hw 172 rfl) (hq hw 173 rfl) (nfS (hq hw 175 rfl)) (hq hw 175 rfl) (hq hw 174 rfl) (Exa.ext O1 am.2.2.2.2.2.2.2.2.2.1) (by decide) pd__Ljava_math_BigInteger__I (ct_bc00 l Z a0 hw am) rfl (Nat.le_of_eq rfl) rfl (by decide) mems0 ?_
  intro fv10 ph11 K12 fq13
  obtain ⟨r14, rfl, rfl, fx15⟩ := fq13
  refine ⟨[], fresh0, ?_⟩
  show Go l _ Z _ _ _ κ _ _ 25 _ [.int r14] 0 0
  refine op' C d24_25 rfl (by decide) (by decide) ?_
  exact ⟨r14, rfl, fx15⟩
theorem ct_fc01 (l : Launch) (Z : State) (a0 : Array Value) (hw : HW a0 Z) {one t1 zero t0 pos neg : Addr} {k1 k0 kp kn : ClassId} {pvs nvs : List Value} (am : Amb Z a0 one t1 zero t0 pos neg k1 k0 kp kn pvs nvs) {f d b u : Addr} {ku : ClassId} {w : Int64} {h0 : Heap} (p0 : Exa Z h0 f "com/example/slicewise/slicewise/Fraction") (p1 : Fld Z h0 f "com/example/slicewise/slicewise/Fraction" "numerator" "Ljava/math/BigInteger;" (.ref zero)) (p2 : Fld Z h0 f "com/example/slicewise/slicewise/Fraction" "denominator" "Ljava/math/BigInteger;" (.ref one)) (p3 : Exa Z h0 d "com/example/slicewise/slicewise/Fraction") (p4 : Fld Z h0 d "com/example/slicewise/slicewise/Fraction" "numerator" "Ljava/math/BigInteger;" (.ref b)) (p5 : Fld Z h0 d "com/example/slicewise/slicewise/Fraction" "denominator" "Ljava/math/BigInteger;" (.ref one)) (p6 : Exa Z h0 b "java/math/BigInteger") (p7 : Fld Z h0 b "java/math/BigInteger" "signum" "I" (.int (sgv w))) (p8 : Fld Z h0 b "java/math/BigInteger" "mag" "[I" (.ref u)) (p9 : Arv Z h0 u ku .int 1 [(.int (lov w))] (.int 0)) (p10 : Exa Z h0 u "[I") (hy0 : ¬ ((lov w) = (0 : Int32))) :
    Py l Z (⟨"com/example/slicewise/slicewise/Fraction", "compareTo", "(Lcom/example/slicewise/slicewise/Fraction;)I"⟩ : MethodName) 7 112 4 16 #[(.ref f), (.ref d)] h0 [] (fun rv h' => ∃ (r : Int32), rv = some (.int r) ∧ ((r = (-1 : Int32) ∧ (0 : Int) < (bv1 (sgv w) (lov w))) ∨ (r = (0 : Int32) ∧ (0 : Int) = (bv1 (sgv w) (lov w))) ∨ (r = (1 : Int32) ∧ (bv1 (sgv w) (lov w)) < (0 : Int)))) := by
  refine Ct.py (by0 := y35) (ml := 2) (rt := (some .int)) (rm := ({ frames := 6, cells := 4, slots := 16, locals := 99 } : Room)) ?_ (hq hw 143 rfl) (hq hw 2 rfl)
  refine Ct.mk (a0 := a0) (Ls := #[.val (.ref f), .val (.ref d)]) (plainFor_of_name pn_com_example_slicewise_slicewise_Fraction) (fun m => by simp [entryFrame, mkF, argsToLocals, Value.category]) ?_
  intro κ C
  show Go l _ Z _ _ _ κ [] h0 0 #[.val (.ref f), .val (.ref d)] [] 0 0
  refine od' C 1 d24_0 rfl rfl rfl (og' C 4 d24_1 rfl (hq hw 19 rfl) Via.refl p1 (od' C 5 d24_4 rfl rfl rfl (og' C 8 d24_5 rfl (hq hw 21 rfl) Via.refl p5 ?_)))
  refine og1' ?_
  intro O1 zO1
  refine oq' C (a := zero) (argsL := [(.ref one)]) (W := 0) d24_8 (hq hw 144 rfl) (hq hw 145 rfl) (nfS (hq hw 147 rfl)) (hq hw 147 rfl) (hq hw 146 rfl) (Exa.ext O1 am.2.2.2.2.2.2.2.2.2.1) (by decide) pd__Ljava_math_BigInteger__Ljava_math_BigInteger_ (ct_mul0 l Z a0 hw am) rfl (Nat.le_of_eq rfl) rfl (by decide) mems0 ?_
  intro fv2 ph3 K4 fq5
  obtain ⟨rfl, rfl⟩ := fq5
  refine ⟨[], fresh0, ?_⟩
  show Go l _ Z _ _ _ κ _ _ 11 _ [(.ref zero)] 0 0
  refine od' C 12 d24_11 rfl rfl rfl (og' C 15 d24_12 rfl (hq hw 19 rfl) Via.refl p4 (od' C 16 d24_15 rfl rfl rfl (og' C 19 d24_16 rfl (hq hw 21 rfl) Via.refl p2 (oq' C (a := b) (argsL := [(.ref one)]) (W := 1) d24_19 (hq hw 144 rfl) (hq hw 145 rfl) (nfS (hq hw 147 rfl)) (hq hw 147 rfl) (hq hw 146 rfl) p6 (by decide) pd__Ljava_math_BigInteger__Ljava_math_BigInteger_ (ct_mul1 l Z a0 hw am (a := b) (t := u) (kt := ku) (x := (lov w)) (g := (sgv w)) p6 p7 p8 p9 p10 (sgv_cases _)) rfl (Nat.le_of_eq rfl) rfl (by decide) mems0 ?_))))
  intro fv6 ph7 K8 fq9
  obtain ⟨p10, b11, kb12, rfl, fx13, fx14, fx15, fx16, fx17⟩ := fq9
  refine ⟨[], fresh0, ?_⟩
  show Go l _ Z _ _ _ κ _ _ 22 _ [(.ref p10), (.ref zero)] 2 7
  refine og1' ?_
  intro O18 zO18
  refine oq' C (a := zero) (argsL := [(.ref p10)]) (W := 0) d24_22 (hq hw 172 rfl) (hq hw 173 rfl) (nfS (hq hw 175 rfl)) (hq hw 175 rfl) (hq hw 174 rfl) (Exa.ext O18 am.2.2.2.2.2.2.2.2.2.1) (by decide) pd__Ljava_math_BigInteger__I (ct_bc01 l Z a0 hw am (b := p10) (u := b11) (ku := kb12) (y0 := (lov w)) (f := (sgv w)) fx13 fx14 fx15 fx16 fx17 hy0 (sgv_cases _)) rfl (Nat.le_of_eq rfl) rfl (by decide) mems0 ?_
  intro fv19 ph20 K21 fq22
  obtain ⟨r23, rfl, rfl, fx24⟩ := fq22
  refine ⟨[], fresh0, ?_⟩
  show Go l _ Z _ _ _ κ _ _ 25 _ [.int r23] 2 7
  refine op' C d24_25 rfl (by decide) (by decide) ?_
  exact ⟨r23, rfl, fx24⟩
theorem ct_fc02 (l : Launch) (Z : State) (a0 : Array Value) (hw : HW a0 Z) {one t1 zero t0 pos neg : Addr} {k1 k0 kp kn : ClassId} {pvs nvs : List Value} (am : Amb Z a0 one t1 zero t0 pos neg k1 k0 kp kn pvs nvs) {f d b u : Addr} {ku : ClassId} {w : Int64} {h0 : Heap} (p0 : Exa Z h0 f "com/example/slicewise/slicewise/Fraction") (p1 : Fld Z h0 f "com/example/slicewise/slicewise/Fraction" "numerator" "Ljava/math/BigInteger;" (.ref zero)) (p2 : Fld Z h0 f "com/example/slicewise/slicewise/Fraction" "denominator" "Ljava/math/BigInteger;" (.ref one)) (p3 : Exa Z h0 d "com/example/slicewise/slicewise/Fraction") (p4 : Fld Z h0 d "com/example/slicewise/slicewise/Fraction" "numerator" "Ljava/math/BigInteger;" (.ref b)) (p5 : Fld Z h0 d "com/example/slicewise/slicewise/Fraction" "denominator" "Ljava/math/BigInteger;" (.ref one)) (p6 : Exa Z h0 b "java/math/BigInteger") (p7 : Fld Z h0 b "java/math/BigInteger" "signum" "I" (.int (sgv w))) (p8 : Fld Z h0 b "java/math/BigInteger" "mag" "[I" (.ref u)) (p9 : Arv Z h0 u ku .int 2 [(.int (hiv w)), (.int (lov w))] (.int 0)) (p10 : Exa Z h0 u "[I") (hy0 : ¬ ((hiv w) = (0 : Int32))) :
    Py l Z (⟨"com/example/slicewise/slicewise/Fraction", "compareTo", "(Lcom/example/slicewise/slicewise/Fraction;)I"⟩ : MethodName) 7 112 4 16 #[(.ref f), (.ref d)] h0 [] (fun rv h' => ∃ (r : Int32), rv = some (.int r) ∧ ((r = (-1 : Int32) ∧ (0 : Int) < (bv2 (sgv w) (hiv w) (lov w))) ∨ (r = (0 : Int32) ∧ (0 : Int) = (bv2 (sgv w) (hiv w) (lov w))) ∨ (r = (1 : Int32) ∧ (bv2 (sgv w) (hiv w) (lov w)) < (0 : Int)))) := by
  refine Ct.py (by0 := y35) (ml := 2) (rt := (some .int)) (rm := ({ frames := 6, cells := 4, slots := 16, locals := 99 } : Room)) ?_ (hq hw 143 rfl) (hq hw 2 rfl)
  refine Ct.mk (a0 := a0) (Ls := #[.val (.ref f), .val (.ref d)]) (plainFor_of_name pn_com_example_slicewise_slicewise_Fraction) (fun m => by simp [entryFrame, mkF, argsToLocals, Value.category]) ?_
  intro κ C
  show Go l _ Z _ _ _ κ [] h0 0 #[.val (.ref f), .val (.ref d)] [] 0 0
  refine od' C 1 d24_0 rfl rfl rfl (og' C 4 d24_1 rfl (hq hw 19 rfl) Via.refl p1 (od' C 5 d24_4 rfl rfl rfl (og' C 8 d24_5 rfl (hq hw 21 rfl) Via.refl p5 ?_)))
  refine og1' ?_
  intro O1 zO1
  refine oq' C (a := zero) (argsL := [(.ref one)]) (W := 0) d24_8 (hq hw 144 rfl) (hq hw 145 rfl) (nfS (hq hw 147 rfl)) (hq hw 147 rfl) (hq hw 146 rfl) (Exa.ext O1 am.2.2.2.2.2.2.2.2.2.1) (by decide) pd__Ljava_math_BigInteger__Ljava_math_BigInteger_ (ct_mul0 l Z a0 hw am) rfl (Nat.le_of_eq rfl) rfl (by decide) mems0 ?_
  intro fv2 ph3 K4 fq5
  obtain ⟨rfl, rfl⟩ := fq5
  refine ⟨[], fresh0, ?_⟩
  show Go l _ Z _ _ _ κ _ _ 11 _ [(.ref zero)] 0 0
  refine od' C 12 d24_11 rfl rfl rfl (og' C 15 d24_12 rfl (hq hw 19 rfl) Via.refl p4 (od' C 16 d24_15 rfl rfl rfl (og' C 19 d24_16 rfl (hq hw 21 rfl) Via.refl p2 (oq' C (a := b) (argsL := [(.ref one)]) (W := 1) d24_19 (hq hw 144 rfl) (hq hw 145 rfl) (nfS (hq hw 147 rfl)) (hq hw 147 rfl) (hq hw 146 rfl) p6 (by decide) pd__Ljava_math_BigInteger__Ljava_math_BigInteger_ (ct_mul2 l Z a0 hw am (a := b) (t := u) (kt := ku) (m0 := (hiv w)) (m1 := (lov w)) (g := (sgv w)) p6 p7 p8 p9 p10 (sgv_cases _)) rfl (Nat.le_of_eq rfl) rfl (by decide) mems0 ?_))))
  intro fv6 ph7 K8 fq9
  obtain ⟨p10, b11, kb12, rfl, fx13, fx14, fx15, fx16, fx17⟩ := fq9
  refine ⟨[], fresh0, ?_⟩
  show Go l _ Z _ _ _ κ _ _ 22 _ [(.ref p10), (.ref zero)] 2 8
  refine og1' ?_
  intro O18 zO18
  refine oq' C (a := zero) (argsL := [(.ref p10)]) (W := 0) d24_22 (hq hw 172 rfl) (hq hw 173 rfl) (nfS (hq hw 175 rfl)) (hq hw 175 rfl) (hq hw 174 rfl) (Exa.ext O18 am.2.2.2.2.2.2.2.2.2.1) (by decide) pd__Ljava_math_BigInteger__I (ct_bc02 l Z a0 hw am (b := p10) (u := b11) (ku := kb12) (y0 := (hiv w)) (y1 := (lov w)) (f := (sgv w)) fx13 fx14 fx15 fx16 fx17 hy0 (sgv_cases _)) rfl (Nat.le_of_eq rfl) rfl (by decide) mems0 ?_
  intro fv19 ph20 K21 fq22
  obtain ⟨r23, rfl, rfl, fx24⟩ := fq22
  refine ⟨[], fresh0, ?_⟩
  show Go l _ Z _ _ _ κ _ _ 25 _ [.int r23] 2 8
  refine op' C d24_25 rfl (by decide) (by decide) ?_
  exact ⟨r23, rfl, fx24⟩
theorem ct_fc10 (l : Launch) (Z : State) (a0 : Array Value) (hw : HW a0 Z) {one t1 zero t0 pos neg : Addr} {k1 k0 kp kn : ClassId} {pvs nvs : List Value} (am : Amb Z a0 one t1 zero t0 pos neg k1 k0 kp kn pvs nvs) {f d a t : Addr} {kt : ClassId} {v : Int64} {h0 : Heap} (p0 : Exa Z h0 f "com/example/slicewise/slicewise/Fraction") (p1 : Fld Z h0 f "com/example/slicewise/slicewise/Fraction" "numerator" "Ljava/math/BigInteger;" (.ref a)) (p2 : Fld Z h0 f "com/example/slicewise/slicewise/Fraction" "denominator" "Ljava/math/BigInteger;" (.ref one)) (p3 : Exa Z h0 a "java/math/BigInteger") (p4 : Fld Z h0 a "java/math/BigInteger" "signum" "I" (.int (sgv v))) (p5 : Fld Z h0 a "java/math/BigInteger" "mag" "[I" (.ref t)) (p6 : Arv Z h0 t kt .int 1 [(.int (lov v))] (.int 0)) (p7 : Exa Z h0 t "[I") (p8 : Exa Z h0 d "com/example/slicewise/slicewise/Fraction") (p9 : Fld Z h0 d "com/example/slicewise/slicewise/Fraction" "numerator" "Ljava/math/BigInteger;" (.ref zero)) (p10 : Fld Z h0 d "com/example/slicewise/slicewise/Fraction" "denominator" "Ljava/math/BigInteger;" (.ref one)) (hx0 : ¬ ((lov v) = (0 : Int32))) :
    Py l Z (⟨"com/example/slicewise/slicewise/Fraction", "compareTo", "(Lcom/example/slicewise/slicewise/Fraction;)I"⟩ : MethodName) 7 112 4 16 #[(.ref f), (.ref d)] h0 [] (fun rv h' => ∃ (r : Int32), rv = some (.int r) ∧ ((r = (-1 : Int32) ∧ (bv1 (sgv v) (lov v)) < (0 : Int)) ∨ (r = (0 : Int32) ∧ (bv1 (sgv v) (lov v)) = (0 : Int)) ∨ (r = (1 : Int32) ∧ (0 : Int) < (bv1 (sgv v) (lov v))))) := by
  refine Ct.py (by0 := y35) (ml := 2) (rt := (some .int)) (rm := ({ frames := 6, cells := 4, slots := 16, locals := 99 } : Room)) ?_ (hq hw 143 rfl) (hq hw 2 rfl)
  refine Ct.mk (a0 := a0) (Ls := #[.val (.ref f), .val (.ref d)]) (plainFor_of_name pn_com_example_slicewise_slicewise_Fraction) (fun m => by simp [entryFrame, mkF, argsToLocals, Value.category]) ?_
  intro κ C
  show Go l _ Z _ _ _ κ [] h0 0 #[.val (.ref f), .val (.ref d)] [] 0 0
  refine od' C 1 d24_0 rfl rfl rfl (og' C 4 d24_1 rfl (hq hw 19 rfl) Via.refl p1 (od' C 5 d24_4 rfl rfl rfl (og' C 8 d24_5 rfl (hq hw 21 rfl) Via.refl p10 (oq' C (a := a) (argsL := [(.ref one)]) (W := 0) d24_8 (hq hw 144 rfl) (hq hw 145 rfl) (nfS (hq hw 147 rfl)) (hq hw 147 rfl) (hq hw 146 rfl) p3 (by decide) pd__Ljava_math_BigInteger__Ljava_math_BigInteger_ (ct_mul1 l Z a0 hw am (a := a) (t := t) (kt := kt) (x := (lov v)) (g := (sgv v)) p3 p4 p5 p6 p7 (sgv_cases _)) rfl (Nat.le_of_eq rfl) rfl (by decide) mems0 ?_))))
  intro fv1 ph2 K3 fq4
  obtain ⟨p5, b6, kb7, rfl, fx8, fx9, fx10, fx11, fx12⟩ := fq4
  refine ⟨[], fresh0, ?_⟩
  show Go l _ Z _ _ _ κ _ _ 11 _ [(.ref p5)] 2 7
  refine od' C 12 d24_11 rfl rfl rfl ?_
  have fx13 := (p9.keep K3 nin0)
  refine og' C 15 d24_12 rfl (hq hw 19 rfl) Via.refl fx13 (od' C 16 d24_15 rfl rfl rfl ?_)
  have fx14 := (p2.keep K3 nin0)
  refine og' C 19 d24_16 rfl (hq hw 21 rfl) Via.refl fx14 ?_
  refine og1' ?_
  intro O15 zO15
  refine oq' C (a := zero) (argsL := [(.ref one)]) (W := 1) d24_19 (hq hw 144 rfl) (hq hw 145 rfl) (nfS (hq hw 147 rfl)) (hq hw 147 rfl) (hq hw 146 rfl) (Exa.ext O15 am.2.2.2.2.2.2.2.2.2.1) (by decide) pd__Ljava_math_BigInteger__Ljava_math_BigInteger_ (ct_mul0 l Z a0 hw am) rfl (Nat.le_of_eq rfl) rfl (by decide) mems0 ?_
  intro fv16 ph17 K18 fq19
  obtain ⟨rfl, rfl⟩ := fq19
  refine ⟨[], fresh0, ?_⟩
  show Go l _ Z _ _ _ κ _ _ 22 _ [(.ref zero), (.ref p5)] 2 7
  refine oq' C (a := p5) (argsL := [(.ref zero)]) (W := 0) d24_22 (hq hw 172 rfl) (hq hw 173 rfl) (nfS (hq hw 175 rfl)) (hq hw 175 rfl) (hq hw 174 rfl) fx8 (by decide) pd__Ljava_math_BigInteger__I (ct_bc10 l Z a0 hw am (a := p5) (t := b6) (kt := kb7) (x0 := (lov v)) (g := (sgv v)) fx8 fx9 fx10 fx11 fx12 hx0 (sgv_cases _)) rfl (Nat.le_of_eq rfl) rfl (by decide) mems0 ?_
  intro fv20 ph21 K22 fq23
  obtain ⟨r24, rfl, rfl, fx25⟩ := fq23
  refine ⟨[], fresh0, ?_⟩
  show Go l _ Z _ _ _ κ _ _ 25 _ [.int r24] 2 7
  refine op' C d24_25 rfl (by decide) (by decide) ?_
  exact ⟨r24, rfl, fx25⟩
theorem ct_fc11 (l : Launch) (Z : State) (a0 : Array Value) (hw : HW a0 Z) {one t1 zero t0 pos neg : Addr} {k1 k0 kp kn : ClassId} {pvs nvs : List Value} (am : Amb Z a0 one t1 zero t0 pos neg k1 k0 kp kn pvs nvs) {f d a t : Addr} {kt : ClassId} {b u : Addr} {ku : ClassId} {v w : Int64} {h0 : Heap} (p0 : Exa Z h0 f "com/example/slicewise/slicewise/Fraction") (p1 : Fld Z h0 f "com/example/slicewise/slicewise/Fraction" "numerator" "Ljava/math/BigInteger;" (.ref a)) (p2 : Fld Z h0 f "com/example/slicewise/slicewise/Fraction" "denominator" "Ljava/math/BigInteger;" (.ref one)) (p3 : Exa Z h0 a "java/math/BigInteger") (p4 : Fld Z h0 a "java/math/BigInteger" "signum" "I" (.int (sgv v))) (p5 : Fld Z h0 a "java/math/BigInteger" "mag" "[I" (.ref t)) (p6 : Arv Z h0 t kt .int 1 [(.int (lov v))] (.int 0)) (p7 : Exa Z h0 t "[I") (p8 : Exa Z h0 d "com/example/slicewise/slicewise/Fraction") (p9 : Fld Z h0 d "com/example/slicewise/slicewise/Fraction" "numerator" "Ljava/math/BigInteger;" (.ref b)) (p10 : Fld Z h0 d "com/example/slicewise/slicewise/Fraction" "denominator" "Ljava/math/BigInteger;" (.ref one)) (p11 : Exa Z h0 b "java/math/BigInteger") (p12 : Fld Z h0 b "java/math/BigInteger" "signum" "I" (.int (sgv w))) (p13 : Fld Z h0 b "java/math/BigInteger" "mag" "[I" (.ref u)) (p14 : Arv Z h0 u ku .int 1 [(.int (lov w))] (.int 0)) (p15 : Exa Z h0 u "[I") (hx0 : ¬ ((lov v) = (0 : Int32))) (hy0 : ¬ ((lov w) = (0 : Int32))) :
    Py l Z (⟨"com/example/slicewise/slicewise/Fraction", "compareTo", "(Lcom/example/slicewise/slicewise/Fraction;)I"⟩ : MethodName) 7 112 4 16 #[(.ref f), (.ref d)] h0 [] (fun rv h' => ∃ (r : Int32), rv = some (.int r) ∧ ((r = (-1 : Int32) ∧ (bv1 (sgv v) (lov v)) < (bv1 (sgv w) (lov w))) ∨ (r = (0 : Int32) ∧ (bv1 (sgv v) (lov v)) = (bv1 (sgv w) (lov w))) ∨ (r = (1 : Int32) ∧ (bv1 (sgv w) (lov w)) < (bv1 (sgv v) (lov v))))) := by
  refine Ct.py (by0 := y35) (ml := 2) (rt := (some .int)) (rm := ({ frames := 6, cells := 4, slots := 16, locals := 99 } : Room)) ?_ (hq hw 143 rfl) (hq hw 2 rfl)
  refine Ct.mk (a0 := a0) (Ls := #[.val (.ref f), .val (.ref d)]) (plainFor_of_name pn_com_example_slicewise_slicewise_Fraction) (fun m => by simp [entryFrame, mkF, argsToLocals, Value.category]) ?_
  intro κ C
  show Go l _ Z _ _ _ κ [] h0 0 #[.val (.ref f), .val (.ref d)] [] 0 0
  refine od' C 1 d24_0 rfl rfl rfl (og' C 4 d24_1 rfl (hq hw 19 rfl) Via.refl p1 (od' C 5 d24_4 rfl rfl rfl (og' C 8 d24_5 rfl (hq hw 21 rfl) Via.refl p10 (oq' C (a := a) (argsL := [(.ref one)]) (W := 0) d24_8 (hq hw 144 rfl) (hq hw 145 rfl) (nfS (hq hw 147 rfl)) (hq hw 147 rfl) (hq hw 146 rfl) p3 (by decide) pd__Ljava_math_BigInteger__Ljava_math_BigInteger_ (ct_mul1 l Z a0 hw am (a := a) (t := t) (kt := kt) (x := (lov v)) (g := (sgv v)) p3 p4 p5 p6 p7 (sgv_cases _)) rfl (Nat.le_of_eq rfl) rfl (by decide) mems0 ?_))))
  intro fv1 ph2 K3 fq4
  obtain ⟨p5, b6, kb7, rfl, fx8, fx9, fx10, fx11, fx12⟩ := fq4
  refine ⟨[], fresh0, ?_⟩
  show Go l _ Z _ _ _ κ _ _ 11 _ [(.ref p5)] 2 7
  refine od' C 12 d24_11 rfl rfl rfl ?_
  have fx13 := (p9.keep K3 nin0)
  refine og' C 15 d24_12 rfl (hq hw 19 rfl) Via.refl fx13 (od' C 16 d24_15 rfl rfl rfl ?_)
  have fx14 := (p2.keep K3 nin0)
  refine og' C 19 d24_16 rfl (hq hw 21 rfl) Via.refl fx14 ?_
  have fx15 := (p11.keep K3)
  have fx16 := (p12.keep K3 nin0)
  have fx17 := (p13.keep K3 nin0)
  have fx18 := (p14.keep K3 nin0)
  have fx19 := (p15.keep K3)
  refine oq' C (a := b) (argsL := [(.ref one)]) (W := 1) d24_19 (hq hw 144 rfl) (hq hw 145 rfl) (nfS (hq hw 147 rfl)) (hq hw 147 rfl) (hq hw 146 rfl) fx15 (by decide) pd__Ljava_math_BigInteger__Ljava_math_BigInteger_ (ct_mul1 l Z a0 hw am (a := b) (t := u) (kt := ku) (x := (lov w)) (g := (sgv w)) fx15 fx16 fx17 fx18 fx19 (sgv_cases _)) rfl (Nat.le_of_eq rfl) rfl (by decide) mems0 ?_
  intro fv20 ph21 K22 fq23
  obtain ⟨p24, b25, kb26, rfl, fx27, fx28, fx29, fx30, fx31⟩ := fq23
  refine ⟨[], fresh0, ?_⟩
  show Go l _ Z _ _ _ κ _ _ 22 _ [(.ref p24), (.ref p5)] 4 14
  have fx32 := (fx8.keep K22)
  have fx33 := (fx9.keep K22 nin0)
  have fx34 := (fx10.keep K22 nin0)
  have fx35 := (fx11.keep K22 nin0)
  have fx36 := (fx12.keep K22)
  refine oq' C (a := p5) (argsL := [(.ref p24)]) (W := 0) d24_22 (hq hw 172 rfl) (hq hw 173 rfl) (nfS (hq hw 175 rfl)) (hq hw 175 rfl) (hq hw 174 rfl) fx32 (by decide) pd__Ljava_math_BigInteger__I (ct_bc11 l Z a0 hw am (a := p5) (t := b6) (kt := kb7) (x0 := (lov v)) (g := (sgv v)) (b := p24) (u := b25) (ku := kb26) (y0 := (lov w)) (f := (sgv w)) fx32 fx33 fx34 fx35 fx36 fx27 fx28 fx29 fx30 fx31 hx0 hy0 (sgv_cases _) (sgv_cases _)) rfl (Nat.le_of_eq rfl) rfl (by decide) mems0 ?_
  intro fv37 ph38 K39 fq40
  obtain ⟨r41, rfl, rfl, fx42⟩ := fq40
  refine ⟨[], fresh0, ?_⟩
  show Go l _ Z _ _ _ κ _ _ 25 _ [.int r41] 4 14
  refine op' C d24_25 rfl (by decide) (by decide) ?_
  exact ⟨r41, rfl, fx42⟩
theorem ct_fc12 (l : Launch) (Z : State) (a0 : Array Value) (hw : HW a0 Z) {one t1 zero t0 pos neg : Addr} {k1 k0 kp kn : ClassId} {pvs nvs : List Value} (am : Amb Z a0 one t1 zero t0 pos neg k1 k0 kp kn pvs nvs) {f d a t : Addr} {kt : ClassId} {b u : Addr} {ku : ClassId} {v w : Int64} {h0 : Heap} (p0 : Exa Z h0 f "com/example/slicewise/slicewise/Fraction") (p1 : Fld Z h0 f "com/example/slicewise/slicewise/Fraction" "numerator" "Ljava/math/BigInteger;" (.ref a)) (p2 : Fld Z h0 f "com/example/slicewise/slicewise/Fraction" "denominator" "Ljava/math/BigInteger;" (.ref one)) (p3 : Exa Z h0 a "java/math/BigInteger") (p4 : Fld Z h0 a "java/math/BigInteger" "signum" "I" (.int (sgv v))) (p5 : Fld Z h0 a "java/math/BigInteger" "mag" "[I" (.ref t)) (p6 : Arv Z h0 t kt .int 1 [(.int (lov v))] (.int 0)) (p7 : Exa Z h0 t "[I") (p8 : Exa Z h0 d "com/example/slicewise/slicewise/Fraction") (p9 : Fld Z h0 d "com/example/slicewise/slicewise/Fraction" "numerator" "Ljava/math/BigInteger;" (.ref b)) (p10 : Fld Z h0 d "com/example/slicewise/slicewise/Fraction" "denominator" "Ljava/math/BigInteger;" (.ref one)) (p11 : Exa Z h0 b "java/math/BigInteger") (p12 : Fld Z h0 b "java/math/BigInteger" "signum" "I" (.int (sgv w))) (p13 : Fld Z h0 b "java/math/BigInteger" "mag" "[I" (.ref u)) (p14 : Arv Z h0 u ku .int 2 [(.int (hiv w)), (.int (lov w))] (.int 0)) (p15 : Exa Z h0 u "[I") (hx0 : ¬ ((lov v) = (0 : Int32))) (hy0 : ¬ ((hiv w) = (0 : Int32))) :
    Py l Z (⟨"com/example/slicewise/slicewise/Fraction", "compareTo", "(Lcom/example/slicewise/slicewise/Fraction;)I"⟩ : MethodName) 7 112 4 16 #[(.ref f), (.ref d)] h0 [] (fun rv h' => ∃ (r : Int32), rv = some (.int r) ∧ ((r = (-1 : Int32) ∧ (bv1 (sgv v) (lov v)) < (bv2 (sgv w) (hiv w) (lov w))) ∨ (r = (0 : Int32) ∧ (bv1 (sgv v) (lov v)) = (bv2 (sgv w) (hiv w) (lov w))) ∨ (r = (1 : Int32) ∧ (bv2 (sgv w) (hiv w) (lov w)) < (bv1 (sgv v) (lov v))))) := by
  refine Ct.py (by0 := y35) (ml := 2) (rt := (some .int)) (rm := ({ frames := 6, cells := 4, slots := 16, locals := 99 } : Room)) ?_ (hq hw 143 rfl) (hq hw 2 rfl)
  refine Ct.mk (a0 := a0) (Ls := #[.val (.ref f), .val (.ref d)]) (plainFor_of_name pn_com_example_slicewise_slicewise_Fraction) (fun m => by simp [entryFrame, mkF, argsToLocals, Value.category]) ?_
  intro κ C
  show Go l _ Z _ _ _ κ [] h0 0 #[.val (.ref f), .val (.ref d)] [] 0 0
  refine od' C 1 d24_0 rfl rfl rfl (og' C 4 d24_1 rfl (hq hw 19 rfl) Via.refl p1 (od' C 5 d24_4 rfl rfl rfl (og' C 8 d24_5 rfl (hq hw 21 rfl) Via.refl p10 (oq' C (a := a) (argsL := [(.ref one)]) (W := 0) d24_8 (hq hw 144 rfl) (hq hw 145 rfl) (nfS (hq hw 147 rfl)) (hq hw 147 rfl) (hq hw 146 rfl) p3 (by decide) pd__Ljava_math_BigInteger__Ljava_math_BigInteger_ (ct_mul1 l Z a0 hw am (a := a) (t := t) (kt := kt) (x := (lov v)) (g := (sgv v)) p3 p4 p5 p6 p7 (sgv_cases _)) rfl (Nat.le_of_eq rfl) rfl (by decide) mems0 ?_))))
  intro fv1 ph2 K3 fq4
  obtain ⟨p5, b6, kb7, rfl, fx8, fx9, fx10, fx11, fx12⟩ := fq4
  refine ⟨[], fresh0, ?_⟩
  show Go l _ Z _ _ _ κ _ _ 11 _ [(.ref p5)] 2 7
  refine od' C 12 d24_11 rfl rfl rfl ?_
  have fx13 := (p9.keep K3 nin0)
  refine og' C 15 d24_12 rfl (hq hw 19 rfl) Via.refl fx13 (od' C 16 d24_15 rfl rfl rfl ?_)
  have fx14 := (p2.keep K3 nin0)
  refine og' C 19 d24_16 rfl (hq hw 21 rfl) Via.refl fx14 ?_
  have fx15 := (p11.keep K3)
  have fx16 := (p12.keep K3 nin0)
  have fx17 := (p13.keep K3 nin0)
  have fx18 := (p14.keep K3 nin0)
  have fx19 := (p15.keep K3)
  refine oq' C (a := b) (argsL := [(.ref one)]) (W := 1) d24_19 (hq hw 144 rfl) (hq hw 145 rfl) (nfS (hq hw 147 rfl)) (hq hw 147 rfl) (hq hw 146 rfl) fx15 (by decide) pd__Ljava_math_BigInteger__Ljava_math_BigInteger_ (ct_mul2 l Z a0 hw am (a := b) (t := u) (kt := ku) (m0 := (hiv w)) (m1 := (lov w)) (g := (sgv w)) fx15 fx16 fx17 fx18 fx19 (sgv_cases _)) rfl (Nat.le_of_eq rfl) rfl (by decide) mems0 ?_
  intro fv20 ph21 K22 fq23
  obtain ⟨p24, b25, kb26, rfl, fx27, fx28, fx29, fx30, fx31⟩ := fq23
  refine ⟨[], fresh0, ?_⟩
  show Go l _ Z _ _ _ κ _ _ 22 _ [(.ref p24), (.ref p5)] 4 15
  have fx32 := (fx8.keep K22)
  have fx33 := (fx9.keep K22 nin0)
  have fx34 := (fx10.keep K22 nin0)
  have fx35 := (fx11.keep K22 nin0)
  have fx36 := (fx12.keep K22)
  refine oq' C (a := p5) (argsL := [(.ref p24)]) (W := 0) d24_22 (hq hw 172 rfl) (hq hw 173 rfl) (nfS (hq hw 175 rfl)) (hq hw 175 rfl) (hq hw 174 rfl) fx32 (by decide) pd__Ljava_math_BigInteger__I (ct_bc12 l Z a0 hw am (a := p5) (t := b6) (kt := kb7) (x0 := (lov v)) (g := (sgv v)) (b := p24) (u := b25) (ku := kb26) (y0 := (hiv w)) (y1 := (lov w)) (f := (sgv w)) fx32 fx33 fx34 fx35 fx36 fx27 fx28 fx29 fx30 fx31 hx0 hy0 (sgv_cases _) (sgv_cases _)) rfl (Nat.le_of_eq rfl) rfl (by decide) mems0 ?_
  intro fv37 ph38 K39 fq40
  obtain ⟨r41, rfl, rfl, fx42⟩ := fq40
  refine ⟨[], fresh0, ?_⟩
  show Go l _ Z _ _ _ κ _ _ 25 _ [.int r41] 4 15
  refine op' C d24_25 rfl (by decide) (by decide) ?_
  exact ⟨r41, rfl, fx42⟩
theorem ct_fc20 (l : Launch) (Z : State) (a0 : Array Value) (hw : HW a0 Z) {one t1 zero t0 pos neg : Addr} {k1 k0 kp kn : ClassId} {pvs nvs : List Value} (am : Amb Z a0 one t1 zero t0 pos neg k1 k0 kp kn pvs nvs) {f d a t : Addr} {kt : ClassId} {v : Int64} {h0 : Heap} (p0 : Exa Z h0 f "com/example/slicewise/slicewise/Fraction") (p1 : Fld Z h0 f "com/example/slicewise/slicewise/Fraction" "numerator" "Ljava/math/BigInteger;" (.ref a)) (p2 : Fld Z h0 f "com/example/slicewise/slicewise/Fraction" "denominator" "Ljava/math/BigInteger;" (.ref one)) (p3 : Exa Z h0 a "java/math/BigInteger") (p4 : Fld Z h0 a "java/math/BigInteger" "signum" "I" (.int (sgv v))) (p5 : Fld Z h0 a "java/math/BigInteger" "mag" "[I" (.ref t)) (p6 : Arv Z h0 t kt .int 2 [(.int (hiv v)), (.int (lov v))] (.int 0)) (p7 : Exa Z h0 t "[I") (p8 : Exa Z h0 d "com/example/slicewise/slicewise/Fraction") (p9 : Fld Z h0 d "com/example/slicewise/slicewise/Fraction" "numerator" "Ljava/math/BigInteger;" (.ref zero)) (p10 : Fld Z h0 d "com/example/slicewise/slicewise/Fraction" "denominator" "Ljava/math/BigInteger;" (.ref one)) (hx0 : ¬ ((hiv v) = (0 : Int32))) :
    Py l Z (⟨"com/example/slicewise/slicewise/Fraction", "compareTo", "(Lcom/example/slicewise/slicewise/Fraction;)I"⟩ : MethodName) 7 112 4 16 #[(.ref f), (.ref d)] h0 [] (fun rv h' => ∃ (r : Int32), rv = some (.int r) ∧ ((r = (-1 : Int32) ∧ (bv2 (sgv v) (hiv v) (lov v)) < (0 : Int)) ∨ (r = (0 : Int32) ∧ (bv2 (sgv v) (hiv v) (lov v)) = (0 : Int)) ∨ (r = (1 : Int32) ∧ (0 : Int) < (bv2 (sgv v) (hiv v) (lov v))))) := by
  refine Ct.py (by0 := y35) (ml := 2) (rt := (some .int)) (rm := ({ frames := 6, cells := 4, slots := 16, locals := 99 } : Room)) ?_ (hq hw 143 rfl) (hq hw 2 rfl)
  refine Ct.mk (a0 := a0) (Ls := #[.val (.ref f), .val (.ref d)]) (plainFor_of_name pn_com_example_slicewise_slicewise_Fraction) (fun m => by simp [entryFrame, mkF, argsToLocals, Value.category]) ?_
  intro κ C
  show Go l _ Z _ _ _ κ [] h0 0 #[.val (.ref f), .val (.ref d)] [] 0 0
  refine od' C 1 d24_0 rfl rfl rfl (og' C 4 d24_1 rfl (hq hw 19 rfl) Via.refl p1 (od' C 5 d24_4 rfl rfl rfl (og' C 8 d24_5 rfl (hq hw 21 rfl) Via.refl p10 (oq' C (a := a) (argsL := [(.ref one)]) (W := 0) d24_8 (hq hw 144 rfl) (hq hw 145 rfl) (nfS (hq hw 147 rfl)) (hq hw 147 rfl) (hq hw 146 rfl) p3 (by decide) pd__Ljava_math_BigInteger__Ljava_math_BigInteger_ (ct_mul2 l Z a0 hw am (a := a) (t := t) (kt := kt) (m0 := (hiv v)) (m1 := (lov v)) (g := (sgv v)) p3 p4 p5 p6 p7 (sgv_cases _)) rfl (Nat.le_of_eq rfl) rfl (by decide) mems0 ?_))))
  intro fv1 ph2 K3 fq4
  obtain ⟨p5, b6, kb7, rfl, fx8, fx9, fx10, fx11, fx12⟩ := fq4
  refine ⟨[], fresh0, ?_⟩
  show Go l _ Z _ _ _ κ _ _ 11 _ [(.ref p5)] 2 8
  refine od' C 12 d24_11 rfl rfl rfl ?_
  have fx13 := (p9.keep K3 nin0)
  refine og' C 15 d24_12 rfl (hq hw 19 rfl) Via.refl fx13 (od' C 16 d24_15 rfl rfl rfl ?_)
  have fx14 := (p2.keep K3 nin0)
  refine og' C 19 d24_16 rfl (hq hw 21 rfl) Via.refl fx14 ?_
  refine og1' ?_
  intro O15 zO15
  refine oq' C (a := zero) (argsL := [(.ref one)]) (W := 1) d24_19 (hq hw 144 rfl) (hq hw 145 rfl) (nfS (hq hw 147 rfl)) (hq hw 147 rfl) (hq hw 146 rfl) (Exa.ext O15 am.2.2.2.2.2.2.2.2.2.1) (by decide) pd__Ljava_math_BigInteger__Ljava_math_BigInteger_ (ct_mul0 l Z a0 hw am) rfl (Nat.le_of_eq rfl) rfl (by decide) mems0 ?_
  intro fv16 ph17 K18 fq19
  obtain ⟨rfl, rfl⟩ := fq19
  refine ⟨[], fresh0, ?_⟩
  show Go l _ Z _ _ _ κ _ _ 22 _ [(.ref zero), (.ref p5)] 2 8
  refine oq' C (a := p5) (argsL := [(.ref zero)]) (W := 0) d24_22 (hq hw 172 rfl) (hq hw 173 rfl) (nfS (hq hw 175 rfl)) (hq hw 175 rfl) (hq hw 174 rfl) fx8 (by decide) pd__Ljava_math_BigInteger__I (ct_bc20 l Z a0 hw am (a := p5) (t := b6) (kt := kb7) (x0 := (hiv v)) (x1 := (lov v)) (g := (sgv v)) fx8 fx9 fx10 fx11 fx12 hx0 (sgv_cases _)) rfl (Nat.le_of_eq rfl) rfl (by decide) mems0 ?_
  intro fv20 ph21 K22 fq23
  obtain ⟨r24, rfl, rfl, fx25⟩ := fq23
  refine ⟨[], fresh0, ?_⟩
  show Go l _ Z _ _ _ κ _ _ 25 _ [.int r24] 2 8
  refine op' C d24_25 rfl (by decide) (by decide) ?_
  exact ⟨r24, rfl, fx25⟩
theorem ct_fc21 (l : Launch) (Z : State) (a0 : Array Value) (hw : HW a0 Z) {one t1 zero t0 pos neg : Addr} {k1 k0 kp kn : ClassId} {pvs nvs : List Value} (am : Amb Z a0 one t1 zero t0 pos neg k1 k0 kp kn pvs nvs) {f d a t : Addr} {kt : ClassId} {b u : Addr} {ku : ClassId} {v w : Int64} {h0 : Heap} (p0 : Exa Z h0 f "com/example/slicewise/slicewise/Fraction") (p1 : Fld Z h0 f "com/example/slicewise/slicewise/Fraction" "numerator" "Ljava/math/BigInteger;" (.ref a)) (p2 : Fld Z h0 f "com/example/slicewise/slicewise/Fraction" "denominator" "Ljava/math/BigInteger;" (.ref one)) (p3 : Exa Z h0 a "java/math/BigInteger") (p4 : Fld Z h0 a "java/math/BigInteger" "signum" "I" (.int (sgv v))) (p5 : Fld Z h0 a "java/math/BigInteger" "mag" "[I" (.ref t)) (p6 : Arv Z h0 t kt .int 2 [(.int (hiv v)), (.int (lov v))] (.int 0)) (p7 : Exa Z h0 t "[I") (p8 : Exa Z h0 d "com/example/slicewise/slicewise/Fraction") (p9 : Fld Z h0 d "com/example/slicewise/slicewise/Fraction" "numerator" "Ljava/math/BigInteger;" (.ref b)) (p10 : Fld Z h0 d "com/example/slicewise/slicewise/Fraction" "denominator" "Ljava/math/BigInteger;" (.ref one)) (p11 : Exa Z h0 b "java/math/BigInteger") (p12 : Fld Z h0 b "java/math/BigInteger" "signum" "I" (.int (sgv w))) (p13 : Fld Z h0 b "java/math/BigInteger" "mag" "[I" (.ref u)) (p14 : Arv Z h0 u ku .int 1 [(.int (lov w))] (.int 0)) (p15 : Exa Z h0 u "[I") (hx0 : ¬ ((hiv v) = (0 : Int32))) (hy0 : ¬ ((lov w) = (0 : Int32))) :
    Py l Z (⟨"com/example/slicewise/slicewise/Fraction", "compareTo", "(Lcom/example/slicewise/slicewise/Fraction;)I"⟩ : MethodName) 7 112 4 16 #[(.ref f), (.ref d)] h0 [] (fun rv h' => ∃ (r : Int32), rv = some (.int r) ∧ ((r = (-1 : Int32) ∧ (bv2 (sgv v) (hiv v) (lov v)) < (bv1 (sgv w) (lov w))) ∨ (r = (0 : Int32) ∧ (bv2 (sgv v) (hiv v) (lov v)) = (bv1 (sgv w) (lov w))) ∨ (r = (1 : Int32) ∧ (bv1 (sgv w) (lov w)) < (bv2 (sgv v) (hiv v) (lov v))))) := by
  refine Ct.py (by0 := y35) (ml := 2) (rt := (some .int)) (rm := ({ frames := 6, cells := 4, slots := 16, locals := 99 } : Room)) ?_ (hq hw 143 rfl) (hq hw 2 rfl)
  refine Ct.mk (a0 := a0) (Ls := #[.val (.ref f), .val (.ref d)]) (plainFor_of_name pn_com_example_slicewise_slicewise_Fraction) (fun m => by simp [entryFrame, mkF, argsToLocals, Value.category]) ?_
  intro κ C
  show Go l _ Z _ _ _ κ [] h0 0 #[.val (.ref f), .val (.ref d)] [] 0 0
  refine od' C 1 d24_0 rfl rfl rfl (og' C 4 d24_1 rfl (hq hw 19 rfl) Via.refl p1 (od' C 5 d24_4 rfl rfl rfl (og' C 8 d24_5 rfl (hq hw 21 rfl) Via.refl p10 (oq' C (a := a) (argsL := [(.ref one)]) (W := 0) d24_8 (hq hw 144 rfl) (hq hw 145 rfl) (nfS (hq hw 147 rfl)) (hq hw 147 rfl) (hq hw 146 rfl) p3 (by decide) pd__Ljava_math_BigInteger__Ljava_math_BigInteger_ (ct_mul2 l Z a0 hw am (a := a) (t := t) (kt := kt) (m0 := (hiv v)) (m1 := (lov v)) (g := (sgv v)) p3 p4 p5 p6 p7 (sgv_cases _)) rfl (Nat.le_of_eq rfl) rfl (by decide) mems0 ?_))))
  intro fv1 ph2 K3 fq4
  obtain ⟨p5, b6, kb7, rfl, fx8, fx9, fx10, fx11, fx12⟩ := fq4
  refine ⟨[], fresh0, ?_⟩
  show Go l _ Z _ _ _ κ _ _ 11 _ [(.ref p5)] 2 8
  refine od' C 12 d24_11 rfl rfl rfl ?_
  have fx13 := (p9.keep K3 nin0)
  refine og' C 15 d24_12 rfl (hq hw 19 rfl) Via.refl fx13 (od' C 16 d24_15 rfl rfl rfl ?_)
  have fx14 := (p2.keep K3 nin0)
  refine og' C 19 d24_16 rfl (hq hw 21 rfl) Via.refl fx14 ?_
  have fx15 := (p11.keep K3)
  have fx16 := (p12.keep K3 nin0)
  have fx17 := (p13.keep K3 nin0)
  have fx18 := (p14.keep K3 nin0)
  have fx19 := (p15.keep K3)
  refine oq' C (a := b) (argsL := [(.ref one)]) (W := 1) d24_19 (hq hw 144 rfl) (hq hw 145 rfl) (nfS (hq hw 147 rfl)) (hq hw 147 rfl) (hq hw 146 rfl) fx15 (by decide) pd__Ljava_math_BigInteger__Ljava_math_BigInteger_ (ct_mul1 l Z a0 hw am (a := b) (t := u) (kt := ku) (x := (lov w)) (g := (sgv w)) fx15 fx16 fx17 fx18 fx19 (sgv_cases _)) rfl (Nat.le_of_eq rfl) rfl (by decide) mems0 ?_
  intro fv20 ph21 K22 fq23
  obtain ⟨p24, b25, kb26, rfl, fx27, fx28, fx29, fx30, fx31⟩ := fq23
  refine ⟨[], fresh0, ?_⟩
  show Go l _ Z _ _ _ κ _ _ 22 _ [(.ref p24), (.ref p5)] 4 15
  have fx32 := (fx8.keep K22)
  have fx33 := (fx9.keep K22 nin0)
  have fx34 := (fx10.keep K22 nin0)
  have fx35 := (fx11.keep K22 nin0)
  have fx36 := (fx12.keep K22)
  refine oq' C (a := p5) (argsL := [(.ref p24)]) (W := 0) d24_22 (hq hw 172 rfl) (hq hw 173 rfl) (nfS (hq hw 175 rfl)) (hq hw 175 rfl) (hq hw 174 rfl) fx32 (by decide) pd__Ljava_math_BigInteger__I (ct_bc21 l Z a0 hw am (a := p5) (t := b6) (kt := kb7) (x0 := (hiv v)) (x1 := (lov v)) (g := (sgv v)) (b := p24) (u := b25) (ku := kb26) (y0 := (lov w)) (f := (sgv w)) fx32 fx33 fx34 fx35 fx36 fx27 fx28 fx29 fx30 fx31 hx0 hy0 (sgv_cases _) (sgv_cases _)) rfl (Nat.le_of_eq rfl) rfl (by decide) mems0 ?_
  intro fv37 ph38 K39 fq40
  obtain ⟨r41, rfl, rfl, fx42⟩ := fq40
  refine ⟨[], fresh0, ?_⟩
  show Go l _ Z _ _ _ κ _ _ 25 _ [.int r41] 4 15
  refine op' C d24_25 rfl (by decide) (by decide) ?_
  exact ⟨r41, rfl, fx42⟩
theorem ct_fc22 (l : Launch) (Z : State) (a0 : Array Value) (hw : HW a0 Z) {one t1 zero t0 pos neg : Addr} {k1 k0 kp kn : ClassId} {pvs nvs : List Value} (am : Amb Z a0 one t1 zero t0 pos neg k1 k0 kp kn pvs nvs) {f d a t : Addr} {kt : ClassId} {b u : Addr} {ku : ClassId} {v w : Int64} {h0 : Heap} (p0 : Exa Z h0 f "com/example/slicewise/slicewise/Fraction") (p1 : Fld Z h0 f "com/example/slicewise/slicewise/Fraction" "numerator" "Ljava/math/BigInteger;" (.ref a)) (p2 : Fld Z h0 f "com/example/slicewise/slicewise/Fraction" "denominator" "Ljava/math/BigInteger;" (.ref one)) (p3 : Exa Z h0 a "java/math/BigInteger") (p4 : Fld Z h0 a "java/math/BigInteger" "signum" "I" (.int (sgv v))) (p5 : Fld Z h0 a "java/math/BigInteger" "mag" "[I" (.ref t)) (p6 : Arv Z h0 t kt .int 2 [(.int (hiv v)), (.int (lov v))] (.int 0)) (p7 : Exa Z h0 t "[I") (p8 : Exa Z h0 d "com/example/slicewise/slicewise/Fraction") (p9 : Fld Z h0 d "com/example/slicewise/slicewise/Fraction" "numerator" "Ljava/math/BigInteger;" (.ref b)) (p10 : Fld Z h0 d "com/example/slicewise/slicewise/Fraction" "denominator" "Ljava/math/BigInteger;" (.ref one)) (p11 : Exa Z h0 b "java/math/BigInteger") (p12 : Fld Z h0 b "java/math/BigInteger" "signum" "I" (.int (sgv w))) (p13 : Fld Z h0 b "java/math/BigInteger" "mag" "[I" (.ref u)) (p14 : Arv Z h0 u ku .int 2 [(.int (hiv w)), (.int (lov w))] (.int 0)) (p15 : Exa Z h0 u "[I") (hx0 : ¬ ((hiv v) = (0 : Int32))) (hy0 : ¬ ((hiv w) = (0 : Int32))) :
    Py l Z (⟨"com/example/slicewise/slicewise/Fraction", "compareTo", "(Lcom/example/slicewise/slicewise/Fraction;)I"⟩ : MethodName) 7 112 4 16 #[(.ref f), (.ref d)] h0 [] (fun rv h' => ∃ (r : Int32), rv = some (.int r) ∧ ((r = (-1 : Int32) ∧ (bv2 (sgv v) (hiv v) (lov v)) < (bv2 (sgv w) (hiv w) (lov w))) ∨ (r = (0 : Int32) ∧ (bv2 (sgv v) (hiv v) (lov v)) = (bv2 (sgv w) (hiv w) (lov w))) ∨ (r = (1 : Int32) ∧ (bv2 (sgv w) (hiv w) (lov w)) < (bv2 (sgv v) (hiv v) (lov v))))) := by
  refine Ct.py (by0 := y35) (ml := 2) (rt := (some .int)) (rm := ({ frames := 6, cells := 4, slots := 16, locals := 99 } : Room)) ?_ (hq hw 143 rfl) (hq hw 2 rfl)
  refine Ct.mk (a0 := a0) (Ls := #[.val (.ref f), .val (.ref d)]) (plainFor_of_name pn_com_example_slicewise_slicewise_Fraction) (fun m => by simp [entryFrame, mkF, argsToLocals, Value.category]) ?_
  intro κ C
  show Go l _ Z _ _ _ κ [] h0 0 #[.val (.ref f), .val (.ref d)] [] 0 0
  refine od' C 1 d24_0 rfl rfl rfl (og' C 4 d24_1 rfl (hq hw 19 rfl) Via.refl p1 (od' C 5 d24_4 rfl rfl rfl (og' C 8 d24_5 rfl (hq hw 21 rfl) Via.refl p10 (oq' C (a := a) (argsL := [(.ref one)]) (W := 0) d24_8 (hq hw 144 rfl) (hq hw 145 rfl) (nfS (hq hw 147 rfl)) (hq hw 147 rfl) (hq hw 146 rfl) p3 (by decide) pd__Ljava_math_BigInteger__Ljava_math_BigInteger_ (ct_mul2 l Z a0 hw am (a := a) (t := t) (kt := kt) (m0 := (hiv v)) (m1 := (lov v)) (g := (sgv v)) p3 p4 p5 p6 p7 (sgv_cases _)) rfl (Nat.le_of_eq rfl) rfl (by decide) mems0 ?_))))
  intro fv1 ph2 K3 fq4
  obtain ⟨p5, b6, kb7, rfl, fx8, fx9, fx10, fx11, fx12⟩ := fq4
  refine ⟨[], fresh0, ?_⟩
  show Go l _ Z _ _ _ κ _ _ 11 _ [(.ref p5)] 2 8
  refine od' C 12 d24_11 rfl rfl rfl ?_
  have fx13 := (p9.keep K3 nin0)
  refine og' C 15 d24_12 rfl (hq hw 19 rfl) Via.refl fx13 (od' C 16 d24_15 rfl rfl rfl ?_)
  have fx14 := (p2.keep K3 nin0)
  refine og' C 19 d24_16 rfl (hq hw 21 rfl) Via.refl fx14 ?_
  have fx15 := (p11.keep K3)
  have fx16 := (p12.keep K3 nin0)
  have fx17 := (p13.keep K3 nin0)
  have fx18 := (p14.keep K3 nin0)
  have fx19 := (p15.keep K3)
  refine oq' C (a := b) (argsL := [(.ref one)]) (W := 1) d24_19 (hq hw 144 rfl) (hq hw 145 rfl) (nfS (hq hw 147 rfl)) (hq hw 147 rfl) (hq hw 146 rfl) fx15 (by decide) pd__Ljava_math_BigInteger__Ljava_math_BigInteger_ (ct_mul2 l Z a0 hw am (a := b) (t := u) (kt := ku) (m0 := (hiv w)) (m1 := (lov w)) (g := (sgv w)) fx15 fx16 fx17 fx18 fx19 (sgv_cases _)) rfl (Nat.le_of_eq rfl) rfl (by decide) mems0 ?_
  intro fv20 ph21 K22 fq23
  obtain ⟨p24, b25, kb26, rfl, fx27, fx28, fx29, fx30, fx31⟩ := fq23
  refine ⟨[], fresh0, ?_⟩
  show Go l _ Z _ _ _ κ _ _ 22 _ [(.ref p24), (.ref p5)] 4 16
  have fx32 := (fx8.keep K22)
  have fx33 := (fx9.keep K22 nin0)
  have fx34 := (fx10.keep K22 nin0)
  have fx35 := (fx11.keep K22 nin0)
  have fx36 := (fx12.keep K22)
  refine oq' C (a := p5) (argsL := [(.ref p24)]) (W := 0) d24_22 (hq hw 172 rfl) (hq hw 173 rfl) (nfS (hq hw 175 rfl)) (hq hw 175 rfl) (hq hw 174 rfl) fx32 (by decide) pd__Ljava_math_BigInteger__I (ct_bc22 l Z a0 hw am (a := p5) (t := b6) (kt := kb7) (x0 := (hiv v)) (x1 := (lov v)) (g := (sgv v)) (b := p24) (u := b25) (ku := kb26) (y0 := (hiv w)) (y1 := (lov w)) (f := (sgv w)) fx32 fx33 fx34 fx35 fx36 fx27 fx28 fx29 fx30 fx31 hx0 hy0 (sgv_cases _) (sgv_cases _)) rfl (Nat.le_of_eq rfl) rfl (by decide) mems0 ?_
  intro fv37 ph38 K39 fq40
  obtain ⟨r41, rfl, rfl, fx42⟩ := fq40
  refine ⟨[], fresh0, ?_⟩
  show Go l _ Z _ _ _ κ _ _ 25 _ [.int r41] 4 16
  refine op' C d24_25 rfl (by decide) (by decide) ?_
  exact ⟨r41, rfl, fx42⟩
theorem cof (l : Launch) (Z : State) (a0 : Array Value) (hw : HW a0 Z) {one t1 zero t0 pos neg : Addr} {k1 k0 kp kn : ClassId} {pvs nvs : List Value} (am : Amb Z a0 one t1 zero t0 pos neg k1 k0 kp kn pvs nvs) {v : Int64} {h0 : Heap} :
    Py l Z (⟨"com/example/slicewise/slicewise/Fraction", "of", "(J)Lcom/example/slicewise/slicewise/Fraction;"⟩ : MethodName) 5 68 3 10 #[(.long v)] h0 [] (fun rv h' => ∃ (f : Addr) (a : Addr), rv = some (.ref f) ∧ Exa Z h' f "com/example/slicewise/slicewise/Fraction" ∧ Fld Z h' f "com/example/slicewise/slicewise/Fraction" "numerator" "Ljava/math/BigInteger;" (.ref a) ∧ Fld Z h' f "com/example/slicewise/slicewise/Fraction" "denominator" "Ljava/math/BigInteger;" (.ref one) ∧ Num Z h' zero a v) := by
  rcases cls v with hv | ⟨hv, hh⟩ | ⟨hv, hh⟩
  · exact (ct_of0 l Z a0 hw am (v := v) hv).weaken fun _ _ q => let ⟨f, e, q1, q2, q3⟩ := q; ⟨f, zero, e, q1, q2, q3, Or.inl ⟨hv, rfl⟩⟩
  · exact (ct_of1 l Z a0 hw am (v := v) hv hh).weaken fun _ _ q => let ⟨f, a, t, kt, e, q1, q2, q3, r⟩ := q; ⟨f, a, e, q1, q2, q3, Or.inr (Or.inl ⟨⟨hv, hh⟩, t, kt, r⟩)⟩
  · exact (ct_of2 l Z a0 hw am (v := v) hv hh).weaken fun _ _ q => let ⟨f, a, t, kt, e, q1, q2, q3, r⟩ := q; ⟨f, a, e, q1, q2, q3, Or.inr (Or.inr ⟨⟨hv, hh⟩, t, kt, r⟩)⟩
theorem coft (l : Launch) (Z : State) (a0 : Array Value) (hw : HW a0 Z) {one t1 zero t0 pos neg : Addr} {k1 k0 kp kn : ClassId} {pvs nvs : List Value} (am : Amb Z a0 one t1 zero t0 pos neg k1 k0 kp kn pvs nvs) {v : Int64} {h0 : Heap} :
    Py l Z (⟨"com/example/slicewise/slicewise/Fraction", "of", "(JJ)Lcom/example/slicewise/slicewise/Fraction;"⟩ : MethodName) 8 127 12 33 #[(.long v), (.long (1 : Int64))] h0 [] (fun rv h' => ∃ (f : Addr) (a : Addr), rv = some (.ref f) ∧ Exa Z h' f "com/example/slicewise/slicewise/Fraction" ∧ Fld Z h' f "com/example/slicewise/slicewise/Fraction" "numerator" "Ljava/math/BigInteger;" (.ref a) ∧ Fld Z h' f "com/example/slicewise/slicewise/Fraction" "denominator" "Ljava/math/BigInteger;" (.ref one) ∧ Num Z h' zero a v) := by
  rcases cls v with hv | ⟨hv, hh⟩ | ⟨hv, hh⟩
  · exact (ct_oft0 l Z a0 hw am (v := v) hv).weaken fun _ _ q => let ⟨f, e, q1, q2, q3⟩ := q; ⟨f, zero, e, q1, q2, q3, Or.inl ⟨hv, rfl⟩⟩
  · exact (ct_oft1 l Z a0 hw am (v := v) hv hh).weaken fun _ _ q => let ⟨f, a, t, kt, e, q1, q2, q3, r⟩ := q; ⟨f, a, e, q1, q2, q3, Or.inr (Or.inl ⟨⟨hv, hh⟩, t, kt, r⟩)⟩
  · exact (ct_oft2 l Z a0 hw am (v := v) hv hh).weaken fun _ _ q => let ⟨f, a, t, kt, e, q1, q2, q3, r⟩ := q; ⟨f, a, e, q1, q2, q3, Or.inr (Or.inr ⟨⟨hv, hh⟩, t, kt, r⟩)⟩
theorem cfc (l : Launch) (Z : State) (a0 : Array Value) (hw : HW a0 Z) {one t1 zero t0 pos neg : Addr} {k1 k0 kp kn : ClassId} {pvs nvs : List Value} (am : Amb Z a0 one t1 zero t0 pos neg k1 k0 kp kn pvs nvs) {f a d b : Addr} {v w : Int64} {h0 : Heap} (p0 : Exa Z h0 f "com/example/slicewise/slicewise/Fraction") (p1 : Fld Z h0 f "com/example/slicewise/slicewise/Fraction" "numerator" "Ljava/math/BigInteger;" (.ref a)) (p2 : Fld Z h0 f "com/example/slicewise/slicewise/Fraction" "denominator" "Ljava/math/BigInteger;" (.ref one)) (p3 : Num Z h0 zero a v) (p4 : Exa Z h0 d "com/example/slicewise/slicewise/Fraction") (p5 : Fld Z h0 d "com/example/slicewise/slicewise/Fraction" "numerator" "Ljava/math/BigInteger;" (.ref b)) (p6 : Fld Z h0 d "com/example/slicewise/slicewise/Fraction" "denominator" "Ljava/math/BigInteger;" (.ref one)) (p7 : Num Z h0 zero b w) :
    Py l Z (⟨"com/example/slicewise/slicewise/Fraction", "compareTo", "(Lcom/example/slicewise/slicewise/Fraction;)I"⟩ : MethodName) 7 112 4 16 #[(.ref f), (.ref d)] h0 [] (fun rv h' => ∃ (r : Int32), rv = some (.int r) ∧ ((r = (-1 : Int32) ∧ v.toInt < w.toInt) ∨ (r = (0 : Int32) ∧ v.toInt = w.toInt) ∨ (r = (1 : Int32) ∧ w.toInt < v.toInt))) := by
  rcases p3 with ⟨hv, rfl⟩ | ⟨⟨hv, hh⟩, ht, hkt, h1, h2, h3, h4, h5⟩ | ⟨⟨hv, hh⟩, ht, hkt, h1, h2, h3, h4, h5⟩ <;> rcases p7 with ⟨gv, rfl⟩ | ⟨⟨gv, gh⟩, gt, gkt, g1, g2, g3, g4, g5⟩ | ⟨⟨gv, gh⟩, gt, gkt, g1, g2, g3, g4, g5⟩
  · exact (ct_fc00 l Z a0 hw am p0 p1 p2 p4 p5 p6).weaken fun _ _ q => let ⟨r, e, z⟩ := q; ⟨r, e, tri3 z (by rw [hv]; rfl) (by rw [gv]; rfl)⟩
  · exact (ct_fc01 l Z a0 hw am (w := w) p0 p1 p2 p4 p5 p6 g1 g2 g3 g4 g5 (lov_ne gv gh)).weaken fun _ _ q => let ⟨r, e, z⟩ := q; ⟨r, e, tri3 z (by rw [hv]; rfl) (bvv1 gv gh)⟩
  · exact (ct_fc02 l Z a0 hw am (w := w) p0 p1 p2 p4 p5 p6 g1 g2 g3 g4 g5 gh).weaken fun _ _ q => let ⟨r, e, z⟩ := q; ⟨r, e, tri3 z (by rw [hv]; rfl) (bvv2 gv gh)⟩
  · exact (ct_fc10 l Z a0 hw am (v := v) p0 p1 p2 h1 h2 h3 h4 h5 p4 p5 p6 (lov_ne hv hh)).weaken fun _ _ q => let ⟨r, e, z⟩ := q; ⟨r, e, tri3 z (bvv1 hv hh) (by rw [gv]; rfl)⟩
  · exact (ct_fc11 l Z a0 hw am (v := v) (w := w) p0 p1 p2 h1 h2 h3 h4 h5 p4 p5 p6 g1 g2 g3 g4 g5 (lov_ne hv hh) (lov_ne gv gh)).weaken fun _ _ q => let ⟨r, e, z⟩ := q; ⟨r, e, tri3 z (bvv1 hv hh) (bvv1 gv gh)⟩
  · exact (ct_fc12 l Z a0 hw am (v := v) (w := w) p0 p1 p2 h1 h2 h3 h4 h5 p4 p5 p6 g1 g2 g3 g4 g5 (lov_ne hv hh) gh).weaken fun _ _ q => let ⟨r, e, z⟩ := q; ⟨r, e, tri3 z (bvv1 hv hh) (bvv2 gv gh)⟩
  · exact (ct_fc20 l Z a0 hw am (v := v) p0 p1 p2 h1 h2 h3 h4 h5 p4 p5 p6 hh).weaken fun _ _ q => let ⟨r, e, z⟩ := q; ⟨r, e, tri3 z (bvv2 hv hh) (by rw [gv]; rfl)⟩
  · exact (ct_fc21 l Z a0 hw am (v := v) (w := w) p0 p1 p2 h1 h2 h3 h4 h5 p4 p5 p6 g1 g2 g3 g4 g5 hh (lov_ne gv gh)).weaken fun _ _ q => let ⟨r, e, z⟩ := q; ⟨r, e, tri3 z (bvv2 hv hh) (bvv1 gv gh)⟩
  · exact (ct_fc22 l Z a0 hw am (v := v) (w := w) p0 p1 p2 h1 h2 h3 h4 h5 p4 p5 p6 g1 g2 g3 g4 g5 hh gh).weaken fun _ _ q => let ⟨r, e, z⟩ := q; ⟨r, e, tri3 z (bvv2 hv hh) (bvv2 gv gh)⟩
theorem cfeq (l : Launch) (Z : State) (a0 : Array Value) (hw : HW a0 Z) {one t1 zero t0 pos neg : Addr} {k1 k0 kp kn : ClassId} {pvs nvs : List Value} (am : Amb Z a0 one t1 zero t0 pos neg k1 k0 kp kn pvs nvs) {f a d b : Addr} {v w : Int64} {h0 : Heap} (p0 : Exa Z h0 f "com/example/slicewise/slicewise/Fraction") (p1 : Fld Z h0 f "com/example/slicewise/slicewise/Fraction" "numerator" "Ljava/math/BigInteger;" (.ref a)) (p2 : Fld Z h0 f "com/example/slicewise/slicewise/Fraction" "denominator" "Ljava/math/BigInteger;" (.ref one)) (p3 : Num Z h0 zero a v) (p4 : Exa Z h0 d "com/example/slicewise/slicewise/Fraction") (p5 : Fld Z h0 d "com/example/slicewise/slicewise/Fraction" "numerator" "Ljava/math/BigInteger;" (.ref b)) (p6 : Fld Z h0 d "com/example/slicewise/slicewise/Fraction" "denominator" "Ljava/math/BigInteger;" (.ref one)) (p7 : Num Z h0 zero b w) (evw : w = v) :
    Py l Z (⟨"com/example/slicewise/slicewise/Fraction", "equals", "(Ljava/lang/Object;)Z"⟩ : MethodName) 2 31 0 0 #[(.ref f), (.ref d)] h0 [] (fun rv h' => rv = some (.int 1) ∧ h' = h0) := by
  rcases p3 with ⟨hv, rfl⟩ | ⟨⟨hv, hh⟩, ht, hkt, h1, h2, h3, h4, h5⟩ | ⟨⟨hv, hh⟩, ht, hkt, h1, h2, h3, h4, h5⟩ <;> rcases p7 with ⟨gv, rfl⟩ | ⟨⟨gv, gh⟩, gt, gkt, g1, g2, g3, g4, g5⟩ | ⟨⟨gv, gh⟩, gt, gkt, g1, g2, g3, g4, g5⟩
  · exact ct_feq0 l Z a0 hw am p0 p1 p2 p4 p5 p6
  · subst evw; exact absurd hv gv
  · subst evw; exact absurd hv gv
  · subst evw; exact absurd gv hv
  · exact ct_feq1 l Z a0 hw am (v := v) (w := w) p0 p1 p2 h1 h2 h3 h4 h5 p4 p5 p6 g1 g2 g3 g4 g5 evw
  · subst evw; exact absurd hh gh
  · subst evw; exact absurd gv hv
  · subst evw; exact absurd gh hh
  · exact ct_feq2 l Z a0 hw am (v := v) (w := w) p0 p1 p2 h1 h2 h3 h4 h5 p4 p5 p6 g1 g2 g3 g4 g5 evw
theorem cfsg (l : Launch) (Z : State) (a0 : Array Value) (hw : HW a0 Z) {one t1 zero t0 pos neg : Addr} {k1 k0 kp kn : ClassId} {pvs nvs : List Value} (am : Amb Z a0 one t1 zero t0 pos neg k1 k0 kp kn pvs nvs) {f a : Addr} {v : Int64} {h0 : Heap} (p0 : Exa Z h0 f "com/example/slicewise/slicewise/Fraction") (p1 : Fld Z h0 f "com/example/slicewise/slicewise/Fraction" "numerator" "Ljava/math/BigInteger;" (.ref a)) (p2 : Fld Z h0 f "com/example/slicewise/slicewise/Fraction" "denominator" "Ljava/math/BigInteger;" (.ref one)) (p3 : Num Z h0 zero a v) :
    Py l Z (⟨"com/example/slicewise/slicewise/Fraction", "signum", "()I"⟩ : MethodName) 2 24 0 0 #[(.ref f)] h0 [] (fun rv h' => rv = some (.int (sg3 v)) ∧ h' = h0) := by
  rcases p3 with ⟨hv, rfl⟩ | ⟨⟨hv, hh⟩, ht, hkt, h1, h2, h3, h4, h5⟩ | ⟨⟨hv, hh⟩, ht, hkt, h1, h2, h3, h4, h5⟩
  · exact (ct_fsg0 l Z a0 hw am p0 p1 p2).weaken fun _ _ q => ⟨q.1.trans (congrArg (fun z => some (Value.int z)) (sg3_0 hv)), q.2⟩
  · exact (ct_fsg1 l Z a0 hw am (v := v) p0 p1 p2 h1 h2 h3 h4 h5).weaken fun _ _ q => ⟨q.1.trans (congrArg (fun z => some (Value.int z)) (sg3_n hv)), q.2⟩
  · exact (ct_fsg2 l Z a0 hw am (v := v) p0 p1 p2 h1 h2 h3 h4 h5).weaken fun _ _ q => ⟨q.1.trans (congrArg (fun z => some (Value.int z)) (sg3_n hv)), q.2⟩
theorem law0 (l : Launch) (Z : State) (a0 : Array Value) (hw : HW a0 Z) {one t1 zero t0 pos neg : Addr} {k1 k0 kp kn : ClassId} {pvs nvs : List Value} (am : Amb Z a0 one t1 zero t0 pos neg k1 k0 kp kn pvs nvs) {v : Int64} {w : Int64} {h0 : Heap} :
    Ct l Z x code maxLocals ret room_1 #[(.long v), (.long w)] h0 [] (fun v h' => v = some (.int 1)) := by
  refine Ct.mk (a0 := a0) (Ls := #[.val (.long v), .second, .val (.long w), .second, .unset, .unset, .unset, .unset, .unset, .unset, .unset, .unset]) (plainFor_of_name pn_com_example_slicewise_slicewise_FractionOfPinLaw) (fun m => by first | (simp [entryFrame, mkF, argsToLocals, Value.category, maxLocals]; done) | rfl) ?_
  intro κ C
  show Go l _ Z _ _ _ κ [] h0 0 #[.val (.long v), .second, .val (.long w), .second, .unset, .unset, .unset, .unset, .unset, .unset, .unset, .unset] [] 0 0
  refine ou' C 1 at_0 rfl rfl (oc1' C (argsL := [(.long v)]) (W := 0) at_1 (hq hw 0 rfl) (hq hw 1 rfl) (hq hw 2 rfl) (hq hw 3 rfl) (by decide) pd__J_Lcom_example_slicewise_slicewise_Fraction_ (cof l Z a0 hw am (v := v)) rfl (Nat.le_of_eq rfl) rfl (by decide) mems0 ?_)
  intro fv1 ph2 K3 fq4
  obtain ⟨f5, a6, rfl, fx7, fx8, fx9, fx10⟩ := fq4
  refine ⟨[], fresh0, ?_⟩
  show Go l _ Z _ _ _ κ _ _ 4 _ [(.ref f5)] 3 10
  refine oy' C 6 (Ls' := #[.val (.long v), .second, .val (.long w), .second, .val (.ref f5), .unset, .unset, .unset, .unset, .unset, .unset, .unset]) at_4 rfl rfl rfl (ou' C 7 at_6 rfl rfl (on1' C 8 (1 : Int64) at_7 rfl (by decide) (oc1' C (argsL := [(.long v), (.long (1 : Int64))]) (W := 0) at_8 (hq hw 23 rfl) (hq hw 24 rfl) (hq hw 2 rfl) (hq hw 25 rfl) (by decide) pd__JJ_Lcom_example_slicewise_slicewise_Fraction_ (coft l Z a0 hw am (v := v)) rfl (Nat.le_of_eq rfl) rfl (by decide) mems0 ?_)))
  intro fv11 ph12 K13 fq14
  obtain ⟨f15, a16, rfl, fx17, fx18, fx19, fx20⟩ := fq14
  refine ⟨[], fresh0, ?_⟩
  show Go l _ Z _ _ _ κ _ _ 11 _ [(.ref f15)] 15 43
  refine oy' C 13 (Ls' := #[.val (.long v), .second, .val (.long w), .second, .val (.ref f5), .val (.ref f15), .unset, .unset, .unset, .unset, .unset, .unset]) at_11 rfl rfl rfl (ou' C 14 at_13 rfl rfl (oc1' C (argsL := [(.long w)]) (W := 0) at_14 (hq hw 0 rfl) (hq hw 1 rfl) (hq hw 2 rfl) (hq hw 3 rfl) (by decide) pd__J_Lcom_example_slicewise_slicewise_Fraction_ (cof l Z a0 hw am (v := w)) rfl (Nat.le_of_eq rfl) rfl (by decide) mems0 ?_))
  intro fv21 ph22 K23 fq24
  obtain ⟨f25, a26, rfl, fx27, fx28, fx29, fx30⟩ := fq24
  refine ⟨[], fresh0, ?_⟩
  show Go l _ Z _ _ _ κ _ _ 17 _ [(.ref f25)] 18 53
  refine oy' C 19 (Ls' := #[.val (.long v), .second, .val (.long w), .second, .val (.ref f5), .val (.ref f15), .val (.ref f25), .unset, .unset, .unset, .unset, .unset]) at_17 rfl rfl rfl (ou' C 20 at_19 rfl rfl (on1' C 21 (0 : Int64) at_20 rfl (by decide) (oh1' C 22 (XT.cmpL v (0 : Int64)) at_21 rfl rfl ?_)))
  by_cases hs : (XT.cmpL v (0 : Int64)) < (0 : Int32)
  · skip
    refine or' C 25 at_22 rfl (tlt hs).2.1 (oe' C 26 (-1 : Int32) at_25 rfl (by decide) (os' C (pc' := 40) at_26 (by decide) (by decide) (of' C 42 (Ls' := #[.val (.long v), .second, .val (.long w), .second, .val (.ref f5), .val (.ref f15), .val (.ref f25), .val (.int (-1 : Int32)), .unset, .unset, .unset, .unset]) at_40 rfl rfl (ou' C 43 at_42 rfl rfl ?_))))
    refine ou' C 44 at_43 rfl rfl (oh1' C 45 (XT.cmpL v w) at_44 rfl rfl ?_)
    by_cases hc : (XT.cmpL v w) < (0 : Int32)
    · skip
      refine or' C 48 at_45 rfl (tlt hc).2.1 (oe' C 49 (-1 : Int32) at_48 rfl (by decide) (os' C (pc' := 63) at_49 (by decide) (by decide) (of' C 65 (Ls' := #[.val (.long v), .second, .val (.long w), .second, .val (.ref f5), .val (.ref f15), .val (.ref f25), .val (.int (-1 : Int32)), .val (.int (-1 : Int32)), .unset, .unset, .unset]) at_63 rfl rfl (oc' C 67 at_65 rfl rfl rfl ?_))))
      refine oc' C 69 at_67 rfl rfl rfl ?_
      have fx31 := ((fx7.keep K13).keep K23)
      have fx32 := ((fx8.keep K13 nin0).keep K23 nin0)
      have fx33 := ((fx9.keep K13 nin0).keep K23 nin0)
      have fx34 := (Num.keep K23 (Num.keep K13 fx10))
      refine oq' C (a := f5) (argsL := [(.ref f25)]) (W := 0) at_69 (hq hw 139 rfl) (hq hw 140 rfl) (nfS (hq hw 142 rfl)) (hq hw 142 rfl) (hq hw 141 rfl) fx31 (by decide) pd__Lcom_example_slicewise_slicewise_Fraction__I (cfc l Z a0 hw am (f := f5) (a := a6) (d := f25) (b := a26) (v := v) (w := w) fx31 fx32 fx33 fx34 fx27 fx28 fx29 fx30) rfl (Nat.le_of_eq rfl) rfl (by decide) mems0 ?_
      intro fv35 ph36 K37 fq38
      obtain ⟨r39, rfl, fx40⟩ := fq38
      refine ⟨[], fresh0, ?_⟩
      show Go l _ Z _ _ _ κ _ _ 72 _ [.int r39] 22 69
      refine of' C 74 (Ls' := #[.val (.long v), .second, .val (.long w), .second, .val (.ref f5), .val (.ref f15), .val (.ref f25), .val (.int (-1 : Int32)), .val (.int (-1 : Int32)), .val (.int r39), .unset, .unset]) at_72 rfl rfl (oa' C 76 at_74 rfl rfl (or' C 79 at_76 rfl (tlt ((by rw [(trl fx40 rfl rfl (Int64.lt_iff_toInt_lt.mp (cmpL_lt.mp hc)))]; decide) : r39 < (0 : Int32))).2.1 (oe' C 80 (-1 : Int32) at_79 rfl (by decide) (os' C (pc' := 93) at_80 (by decide) (by decide) ?_))))
      refine of' C 95 (Ls' := #[.val (.long v), .second, .val (.long w), .second, .val (.ref f5), .val (.ref f15), .val (.ref f25), .val (.int (-1 : Int32)), .val (.int (-1 : Int32)), .val (.int r39), .val (.int (-1 : Int32)), .unset]) at_93 rfl rfl (ou' C 96 at_95 rfl rfl (ou' C 97 at_96 rfl rfl (oh1' C 98 (XT.cmpL v w) at_97 rfl rfl (on' C (pc' := 111) at_98 (feq ((fun z => absurd hc (by rw [z]; decide)) : ¬ ((XT.cmpL v w) = (0 : Int32)))).2 (by decide) (by decide) ?_))))
      refine oe' C 112 (1 : Int32) at_111 rfl (by decide) (os' C (pc' := 116) at_112 (by decide) (by decide) (of' C 118 (Ls' := #[.val (.long v), .second, .val (.long w), .second, .val (.ref f5), .val (.ref f15), .val (.ref f25), .val (.int (-1 : Int32)), .val (.int (-1 : Int32)), .val (.int r39), .val (.int (-1 : Int32)), .val (.int 1)]) at_116 rfl rfl (oc' C 120 at_118 rfl rfl rfl (oc' C 122 at_120 rfl rfl rfl ?_))))
      have fx41 := (fx31.keep K37)
      have fx42 := (fx32.keep K37 nin0)
      have fx43 := (fx33.keep K37 nin0)
      have fx44 := (Num.keep K37 fx34)
      have fx45 := ((fx17.keep K23).keep K37)
      have fx46 := ((fx18.keep K23 nin0).keep K37 nin0)
      have fx47 := ((fx19.keep K23 nin0).keep K37 nin0)
      have fx48 := (Num.keep K37 (Num.keep K23 fx20))
      refine oq' C (a := f5) (argsL := [(.ref f15)]) (W := 0) at_122 (hq hw 183 rfl) (hq hw 184 rfl) (nfS (hq hw 186 rfl)) (hq hw 186 rfl) (hq hw 185 rfl) fx41 (by decide) pd__Ljava_lang_Object__Z (cfeq l Z a0 hw am (f := f5) (a := a6) (d := f15) (b := a16) (v := v) (w := v) fx41 fx42 fx43 fx44 fx45 fx46 fx47 fx48 rfl) rfl (Nat.le_of_eq rfl) rfl (by decide) mems0 ?_
      intro fv49 ph50 K51 fq52
      obtain ⟨rfl, rfl⟩ := fq52
      refine ⟨[], fresh0, ?_⟩
      show Go l _ Z _ _ _ κ _ _ 125 _ [.int 1] 22 69
      refine or' C 128 at_125 rfl (by decide) (oc' C 130 at_128 rfl rfl rfl (oq' C (a := f5) (argsL := []) (W := 0) at_130 (hq hw 189 rfl) (hq hw 190 rfl) (nfS (hq hw 192 rfl)) (hq hw 192 rfl) (hq hw 191 rfl) fx41 (by decide) pd___I (cfsg l Z a0 hw am (f := f5) (a := a6) (v := v) fx41 fx42 fx43 fx44) rfl (Nat.le_of_eq rfl) rfl (by decide) mems0 ?_))
      intro fv53 ph54 K55 fq56
      obtain ⟨rfl, rfl⟩ := fq56
      refine ⟨[], fresh0, ?_⟩
      show Go l _ Z _ _ _ κ _ _ 133 _ [(.int (sg3 v))] 22 69
      refine oa' C 135 at_133 rfl rfl (ol' C 138 at_135 rfl (teq (sg3_m (cmpL_lt.mp hs) : (sg3 v) = (-1 : Int32))).2 (oa' C 140 at_138 rfl rfl (oa' C 142 at_140 rfl rfl (ol' C 145 at_142 rfl (by decide) ?_))))
      refine oa' C 147 at_145 rfl rfl (or' C 150 at_147 rfl (by decide) (oe' C 151 (1 : Int32) at_150 rfl (by decide) (os' C (pc' := 155) at_151 (by decide) (by decide) (om1' C (t := .boolean) (z := (1 : Int32)) at_155 rfl (by decide) (by decide) (by decide) (by decide) ?_))))
      exact rfl
    · skip
      refine on' C (pc' := 52) at_45 (flt hc).2.1 (by decide) (by decide) (ou' C 53 at_52 rfl rfl (ou' C 54 at_53 rfl rfl (oh1' C 55 (XT.cmpL v w) at_54 rfl rfl ?_)))
      by_cases hqe : (XT.cmpL v w) = (0 : Int32)
      · skip
        refine or' C 58 at_55 rfl (teq hqe).2 (oe' C 59 (0 : Int32) at_58 rfl (by decide) (os' C (pc' := 63) at_59 (by decide) (by decide) (of' C 65 (Ls' := #[.val (.long v), .second, .val (.long w), .second, .val (.ref f5), .val (.ref f15), .val (.ref f25), .val (.int (-1 : Int32)), .val (.int 0), .unset, .unset, .unset]) at_63 rfl rfl (oc' C 67 at_65 rfl rfl rfl ?_))))
        refine oc' C 69 at_67 rfl rfl rfl ?_
        have fx57 := ((fx7.keep K13).keep K23)
        have fx58 := ((fx8.keep K13 nin0).keep K23 nin0)
        have fx59 := ((fx9.keep K13 nin0).keep K23 nin0)
        have fx60 := (Num.keep K23 (Num.keep K13 fx10))
        refine oq' C (a := f5) (argsL := [(.ref f25)]) (W := 0) at_69 (hq hw 139 rfl) (hq hw 140 rfl) (nfS (hq hw 142 rfl)) (hq hw 142 rfl) (hq hw 141 rfl) fx57 (by decide) pd__Lcom_example_slicewise_slicewise_Fraction__I (cfc l Z a0 hw am (f := f5) (a := a6) (d := f25) (b := a26) (v := v) (w := w) fx57 fx58 fx59 fx60 fx27 fx28 fx29 fx30) rfl (Nat.le_of_eq rfl) rfl (by decide) mems0 ?_
        intro fv61 ph62 K63 fq64
        obtain ⟨r65, rfl, fx66⟩ := fq64
        refine ⟨[], fresh0, ?_⟩
        show Go l _ Z _ _ _ κ _ _ 72 _ [.int r65] 22 69
        refine of' C 74 (Ls' := #[.val (.long v), .second, .val (.long w), .second, .val (.ref f5), .val (.ref f15), .val (.ref f25), .val (.int (-1 : Int32)), .val (.int 0), .val (.int r65), .unset, .unset]) at_72 rfl rfl (oa' C 76 at_74 rfl rfl (on' C (pc' := 83) at_76 (flt ((by rw [(tre fx66 rfl rfl (congrArg Int64.toInt (cmpL_eq.mp hqe)))]; decide) : ¬ (r65 < (0 : Int32)))).2.1 (by decide) (by decide) (oa' C 85 at_83 rfl rfl (or' C 88 at_85 rfl (teq ((tre fx66 rfl rfl (congrArg Int64.toInt (cmpL_eq.mp hqe))) : r65 = (0 : Int32))).2 ?_))))
        refine oe' C 89 (0 : Int32) at_88 rfl (by decide) (os' C (pc' := 93) at_89 (by decide) (by decide) (of' C 95 (Ls' := #[.val (.long v), .second, .val (.long w), .second, .val (.ref f5), .val (.ref f15), .val (.ref f25), .val (.int (-1 : Int32)), .val (.int 0), .val (.int r65), .val (.int 0), .unset]) at_93 rfl rfl (ou' C 96 at_95 rfl rfl (ou' C 97 at_96 rfl rfl ?_))))
        refine oh1' C 98 (XT.cmpL v w) at_97 rfl rfl (or' C 101 at_98 rfl (teq (hqe : (XT.cmpL v w) = (0 : Int32))).2 (oc' C 103 at_101 rfl rfl rfl (oc' C 105 at_103 rfl rfl rfl ?_)))
        have fx67 := (fx57.keep K63)
        have fx68 := (fx58.keep K63 nin0)
        have fx69 := (fx59.keep K63 nin0)
        have fx70 := (Num.keep K63 fx60)
        have fx71 := (fx27.keep K63)
        have fx72 := (fx28.keep K63 nin0)
        have fx73 := (fx29.keep K63 nin0)
        have fx74 := (Num.keep K63 fx30)
        refine oq' C (a := f5) (argsL := [(.ref f25)]) (W := 0) at_105 (hq hw 183 rfl) (hq hw 184 rfl) (nfS (hq hw 186 rfl)) (hq hw 186 rfl) (hq hw 185 rfl) fx67 (by decide) pd__Ljava_lang_Object__Z (cfeq l Z a0 hw am (f := f5) (a := a6) (d := f25) (b := a26) (v := v) (w := w) fx67 fx68 fx69 fx70 fx71 fx72 fx73 fx74 (cmpL_eq.mp hqe).symm) rfl (Nat.le_of_eq rfl) rfl (by decide) mems0 ?_
        intro fv75 ph76 K77 fq78
        obtain ⟨rfl, rfl⟩ := fq78
        refine ⟨[], fresh0, ?_⟩
        show Go l _ Z _ _ _ κ _ _ 108 _ [.int 1] 22 69
        refine or' C 111 at_108 rfl (by decide) (oe' C 112 (1 : Int32) at_111 rfl (by decide) (os' C (pc' := 116) at_112 (by decide) (by decide) (of' C 118 (Ls' := #[.val (.long v), .second, .val (.long w), .second, .val (.ref f5), .val (.ref f15), .val (.ref f25), .val (.int (-1 : Int32)), .val (.int 0), .val (.int r65), .val (.int 0), .val (.int 1)]) at_116 rfl rfl (oc' C 120 at_118 rfl rfl rfl ?_))))
        refine oc' C 122 at_120 rfl rfl rfl ?_
        have fx79 := ((fx17.keep K23).keep K63)
        have fx80 := ((fx18.keep K23 nin0).keep K63 nin0)
        have fx81 := ((fx19.keep K23 nin0).keep K63 nin0)
        have fx82 := (Num.keep K63 (Num.keep K23 fx20))
        refine oq' C (a := f5) (argsL := [(.ref f15)]) (W := 0) at_122 (hq hw 183 rfl) (hq hw 184 rfl) (nfS (hq hw 186 rfl)) (hq hw 186 rfl) (hq hw 185 rfl) fx67 (by decide) pd__Ljava_lang_Object__Z (cfeq l Z a0 hw am (f := f5) (a := a6) (d := f15) (b := a16) (v := v) (w := v) fx67 fx68 fx69 fx70 fx79 fx80 fx81 fx82 rfl) rfl (Nat.le_of_eq rfl) rfl (by decide) mems0 ?_
        intro fv83 ph84 K85 fq86
        obtain ⟨rfl, rfl⟩ := fq86
        refine ⟨[], fresh0, ?_⟩
        show Go l _ Z _ _ _ κ _ _ 125 _ [.int 1] 22 69
        refine or' C 128 at_125 rfl (by decide) (oc' C 130 at_128 rfl rfl rfl (oq' C (a := f5) (argsL := []) (W := 0) at_130 (hq hw 189 rfl) (hq hw 190 rfl) (nfS (hq hw 192 rfl)) (hq hw 192 rfl) (hq hw 191 rfl) fx67 (by decide) pd___I (cfsg l Z a0 hw am (f := f5) (a := a6) (v := v) fx67 fx68 fx69 fx70) rfl (Nat.le_of_eq rfl) rfl (by decide) mems0 ?_))
        intro fv87 ph88 K89 fq90
        obtain ⟨rfl, rfl⟩ := fq90
        refine ⟨[], fresh0, ?_⟩
        show Go l _ Z _ _ _ κ _ _ 133 _ [(.int (sg3 v))] 22 69
        refine oa' C 135 at_133 rfl rfl (ol' C 138 at_135 rfl (teq (sg3_m (cmpL_lt.mp hs) : (sg3 v) = (-1 : Int32))).2 (oa' C 140 at_138 rfl rfl (oa' C 142 at_140 rfl rfl (ol' C 145 at_142 rfl (by decide) ?_))))
        refine oa' C 147 at_145 rfl rfl (or' C 150 at_147 rfl (by decide) (oe' C 151 (1 : Int32) at_150 rfl (by decide) (os' C (pc' := 155) at_151 (by decide) (by decide) (om1' C (t := .boolean) (z := (1 : Int32)) at_155 rfl (by decide) (by decide) (by decide) (by decide) ?_))))
        exact rfl
      · skip
        refine on' C (pc' := 62) at_55 (feq hqe).2 (by decide) (by decide) (oe' C 63 (1 : Int32) at_62 rfl (by decide) (of' C 65 (Ls' := #[.val (.long v), .second, .val (.long w), .second, .val (.ref f5), .val (.ref f15), .val (.ref f25), .val (.int (-1 : Int32)), .val (.int 1), .unset, .unset, .unset]) at_63 rfl rfl (oc' C 67 at_65 rfl rfl rfl (oc' C 69 at_67 rfl rfl rfl ?_))))
        have fx91 := ((fx7.keep K13).keep K23)
        have fx92 := ((fx8.keep K13 nin0).keep K23 nin0)
        have fx93 := ((fx9.keep K13 nin0).keep K23 nin0)
        have fx94 := (Num.keep K23 (Num.keep K13 fx10))
        refine oq' C (a := f5) (argsL := [(.ref f25)]) (W := 0) at_69 (hq hw 139 rfl) (hq hw 140 rfl) (nfS (hq hw 142 rfl)) (hq hw 142 rfl) (hq hw 141 rfl) fx91 (by decide) pd__Lcom_example_slicewise_slicewise_Fraction__I (cfc l Z a0 hw am (f := f5) (a := a6) (d := f25) (b := a26) (v := v) (w := w) fx91 fx92 fx93 fx94 fx27 fx28 fx29 fx30) rfl (Nat.le_of_eq rfl) rfl (by decide) mems0 ?_
        intro fv95 ph96 K97 fq98
        obtain ⟨r99, rfl, fx100⟩ := fq98
        refine ⟨[], fresh0, ?_⟩
        show Go l _ Z _ _ _ κ _ _ 72 _ [.int r99] 22 69
        refine of' C 74 (Ls' := #[.val (.long v), .second, .val (.long w), .second, .val (.ref f5), .val (.ref f15), .val (.ref f25), .val (.int (-1 : Int32)), .val (.int 1), .val (.int r99), .unset, .unset]) at_72 rfl rfl (oa' C 76 at_74 rfl rfl (on' C (pc' := 83) at_76 (flt ((by rw [(trg fx100 rfl rfl (Int64.lt_iff_toInt_lt.mp (cmpL_gt2 hc hqe)))]; decide) : ¬ (r99 < (0 : Int32)))).2.1 (by decide) (by decide) (oa' C 85 at_83 rfl rfl (on' C (pc' := 92) at_85 (feq ((by rw [(trg fx100 rfl rfl (Int64.lt_iff_toInt_lt.mp (cmpL_gt2 hc hqe)))]; decide) : ¬ (r99 = (0 : Int32)))).2 (by decide) (by decide) ?_))))
        refine oe' C 93 (1 : Int32) at_92 rfl (by decide) (of' C 95 (Ls' := #[.val (.long v), .second, .val (.long w), .second, .val (.ref f5), .val (.ref f15), .val (.ref f25), .val (.int (-1 : Int32)), .val (.int 1), .val (.int r99), .val (.int 1), .unset]) at_93 rfl rfl (ou' C 96 at_95 rfl rfl (ou' C 97 at_96 rfl rfl (oh1' C 98 (XT.cmpL v w) at_97 rfl rfl ?_))))
        refine on' C (pc' := 111) at_98 (feq (hqe : ¬ ((XT.cmpL v w) = (0 : Int32)))).2 (by decide) (by decide) (oe' C 112 (1 : Int32) at_111 rfl (by decide) (os' C (pc' := 116) at_112 (by decide) (by decide) (of' C 118 (Ls' := #[.val (.long v), .second, .val (.long w), .second, .val (.ref f5), .val (.ref f15), .val (.ref f25), .val (.int (-1 : Int32)), .val (.int 1), .val (.int r99), .val (.int 1), .val (.int 1)]) at_116 rfl rfl (oc' C 120 at_118 rfl rfl rfl ?_))))
        refine oc' C 122 at_120 rfl rfl rfl ?_
        have fx101 := (fx91.keep K97)
        have fx102 := (fx92.keep K97 nin0)
        have fx103 := (fx93.keep K97 nin0)
        have fx104 := (Num.keep K97 fx94)
        have fx105 := ((fx17.keep K23).keep K97)
        have fx106 := ((fx18.keep K23 nin0).keep K97 nin0)
        have fx107 := ((fx19.keep K23 nin0).keep K97 nin0)
        have fx108 := (Num.keep K97 (Num.keep K23 fx20))
        refine oq' C (a := f5) (argsL := [(.ref f15)]) (W := 0) at_122 (hq hw 183 rfl) (hq hw 184 rfl) (nfS (hq hw 186 rfl)) (hq hw 186 rfl) (hq hw 185 rfl) fx101 (by decide) pd__Ljava_lang_Object__Z (cfeq l Z a0 hw am (f := f5) (a := a6) (d := f15) (b := a16) (v := v) (w := v) fx101 fx102 fx103 fx104 fx105 fx106 fx107 fx108 rfl) rfl (Nat.le_of_eq rfl) rfl (by decide) mems0 ?_
        intro fv109 ph110 K111 fq112
        obtain ⟨rfl, rfl⟩ := fq112
        refine ⟨[], fresh0, ?_⟩
        show Go l _ Z _ _ _ κ _ _ 125 _ [.int 1] 22 69
        refine or' C 128 at_125 rfl (by decide) (oc' C 130 at_128 rfl rfl rfl (oq' C (a := f5) (argsL := []) (W := 0) at_130 (hq hw 189 rfl) (hq hw 190 rfl) (nfS (hq hw 192 rfl)) (hq hw 192 rfl) (hq hw 191 rfl) fx101 (by decide) pd___I (cfsg l Z a0 hw am (f := f5) (a := a6) (v := v) fx101 fx102 fx103 fx104) rfl (Nat.le_of_eq rfl) rfl (by decide) mems0 ?_))
        intro fv113 ph114 K115 fq116
        obtain ⟨rfl, rfl⟩ := fq116
        refine ⟨[], fresh0, ?_⟩
        show Go l _ Z _ _ _ κ _ _ 133 _ [(.int (sg3 v))] 22 69
        refine oa' C 135 at_133 rfl rfl (ol' C 138 at_135 rfl (teq (sg3_m (cmpL_lt.mp hs) : (sg3 v) = (-1 : Int32))).2 (oa' C 140 at_138 rfl rfl (oa' C 142 at_140 rfl rfl (ol' C 145 at_142 rfl (by decide) ?_))))
        refine oa' C 147 at_145 rfl rfl (or' C 150 at_147 rfl (by decide) (oe' C 151 (1 : Int32) at_150 rfl (by decide) (os' C (pc' := 155) at_151 (by decide) (by decide) (om1' C (t := .boolean) (z := (1 : Int32)) at_155 rfl (by decide) (by decide) (by decide) (by decide) ?_))))
        exact rfl
  · skip
    refine on' C (pc' := 29) at_22 (flt hs).2.1 (by decide) (by decide) (ou' C 30 at_29 rfl rfl (on1' C 31 (0 : Int64) at_30 rfl (by decide) (oh1' C 32 (XT.cmpL v (0 : Int64)) at_31 rfl rfl ?_)))
    by_cases hz : (XT.cmpL v (0 : Int64)) = (0 : Int32)
    · skip
      refine or' C 35 at_32 rfl (teq hz).2 (oe' C 36 (0 : Int32) at_35 rfl (by decide) (os' C (pc' := 40) at_36 (by decide) (by decide) (of' C 42 (Ls' := #[.val (.long v), .second, .val (.long w), .second, .val (.ref f5), .val (.ref f15), .val (.ref f25), .val (.int 0), .unset, .unset, .unset, .unset]) at_40 rfl rfl (ou' C 43 at_42 rfl rfl ?_))))
      refine ou' C 44 at_43 rfl rfl (oh1' C 45 (XT.cmpL v w) at_44 rfl rfl ?_)
      by_cases hc : (XT.cmpL v w) < (0 : Int32)
      · skip
        refine or' C 48 at_45 rfl (tlt hc).2.1 (oe' C 49 (-1 : Int32) at_48 rfl (by decide) (os' C (pc' := 63) at_49 (by decide) (by decide) (of' C 65 (Ls' := #[.val (.long v), .second, .val (.long w), .second, .val (.ref f5), .val (.ref f15), .val (.ref f25), .val (.int 0), .val (.int (-1 : Int32)), .unset, .unset, .unset]) at_63 rfl rfl (oc' C 67 at_65 rfl rfl rfl ?_))))
        refine oc' C 69 at_67 rfl rfl rfl ?_
        have fx117 := ((fx7.keep K13).keep K23)
        have fx118 := ((fx8.keep K13 nin0).keep K23 nin0)
        have fx119 := ((fx9.keep K13 nin0).keep K23 nin0)
        have fx120 := (Num.keep K23 (Num.keep K13 fx10))
        refine oq' C (a := f5) (argsL := [(.ref f25)]) (W := 0) at_69 (hq hw 139 rfl) (hq hw 140 rfl) (nfS (hq hw 142 rfl)) (hq hw 142 rfl) (hq hw 141 rfl) fx117 (by decide) pd__Lcom_example_slicewise_slicewise_Fraction__I (cfc l Z a0 hw am (f := f5) (a := a6) (d := f25) (b := a26) (v := v) (w := w) fx117 fx118 fx119 fx120 fx27 fx28 fx29 fx30) rfl (Nat.le_of_eq rfl) rfl (by decide) mems0 ?_
        intro fv121 ph122 K123 fq124
        obtain ⟨r125, rfl, fx126⟩ := fq124
        refine ⟨[], fresh0, ?_⟩
        show Go l _ Z _ _ _ κ _ _ 72 _ [.int r125] 22 69
        refine of' C 74 (Ls' := #[.val (.long v), .second, .val (.long w), .second, .val (.ref f5), .val (.ref f15), .val (.ref f25), .val (.int 0), .val (.int (-1 : Int32)), .val (.int r125), .unset, .unset]) at_72 rfl rfl (oa' C 76 at_74 rfl rfl (or' C 79 at_76 rfl (tlt ((by rw [(trl fx126 rfl rfl (Int64.lt_iff_toInt_lt.mp (cmpL_lt.mp hc)))]; decide) : r125 < (0 : Int32))).2.1 (oe' C 80 (-1 : Int32) at_79 rfl (by decide) (os' C (pc' := 93) at_80 (by decide) (by decide) ?_))))
        refine of' C 95 (Ls' := #[.val (.long v), .second, .val (.long w), .second, .val (.ref f5), .val (.ref f15), .val (.ref f25), .val (.int 0), .val (.int (-1 : Int32)), .val (.int r125), .val (.int (-1 : Int32)), .unset]) at_93 rfl rfl (ou' C 96 at_95 rfl rfl (ou' C 97 at_96 rfl rfl (oh1' C 98 (XT.cmpL v w) at_97 rfl rfl (on' C (pc' := 111) at_98 (feq ((fun z => absurd hc (by rw [z]; decide)) : ¬ ((XT.cmpL v w) = (0 : Int32)))).2 (by decide) (by decide) ?_))))
        refine oe' C 112 (1 : Int32) at_111 rfl (by decide) (os' C (pc' := 116) at_112 (by decide) (by decide) (of' C 118 (Ls' := #[.val (.long v), .second, .val (.long w), .second, .val (.ref f5), .val (.ref f15), .val (.ref f25), .val (.int 0), .val (.int (-1 : Int32)), .val (.int r125), .val (.int (-1 : Int32)), .val (.int 1)]) at_116 rfl rfl (oc' C 120 at_118 rfl rfl rfl (oc' C 122 at_120 rfl rfl rfl ?_))))
        have fx127 := (fx117.keep K123)
        have fx128 := (fx118.keep K123 nin0)
        have fx129 := (fx119.keep K123 nin0)
        have fx130 := (Num.keep K123 fx120)
        have fx131 := ((fx17.keep K23).keep K123)
        have fx132 := ((fx18.keep K23 nin0).keep K123 nin0)
        have fx133 := ((fx19.keep K23 nin0).keep K123 nin0)
        have fx134 := (Num.keep K123 (Num.keep K23 fx20))
        refine oq' C (a := f5) (argsL := [(.ref f15)]) (W := 0) at_122 (hq hw 183 rfl) (hq hw 184 rfl) (nfS (hq hw 186 rfl)) (hq hw 186 rfl) (hq hw 185 rfl) fx127 (by decide) pd__Ljava_lang_Object__Z (cfeq l Z a0 hw am (f := f5) (a := a6) (d := f15) (b := a16) (v := v) (w := v) fx127 fx128 fx129 fx130 fx131 fx132 fx133 fx134 rfl) rfl (Nat.le_of_eq rfl) rfl (by decide) mems0 ?_
        intro fv135 ph136 K137 fq138
        obtain ⟨rfl, rfl⟩ := fq138
        refine ⟨[], fresh0, ?_⟩
        show Go l _ Z _ _ _ κ _ _ 125 _ [.int 1] 22 69
        refine or' C 128 at_125 rfl (by decide) (oc' C 130 at_128 rfl rfl rfl (oq' C (a := f5) (argsL := []) (W := 0) at_130 (hq hw 189 rfl) (hq hw 190 rfl) (nfS (hq hw 192 rfl)) (hq hw 192 rfl) (hq hw 191 rfl) fx127 (by decide) pd___I (cfsg l Z a0 hw am (f := f5) (a := a6) (v := v) fx127 fx128 fx129 fx130) rfl (Nat.le_of_eq rfl) rfl (by decide) mems0 ?_))
        intro fv139 ph140 K141 fq142
        obtain ⟨rfl, rfl⟩ := fq142
        refine ⟨[], fresh0, ?_⟩
        show Go l _ Z _ _ _ κ _ _ 133 _ [(.int (sg3 v))] 22 69
        refine oa' C 135 at_133 rfl rfl (ol' C 138 at_135 rfl (teq (sg3_z (cmpL_eq.mp hz) : (sg3 v) = (0 : Int32))).2 (oa' C 140 at_138 rfl rfl (oa' C 142 at_140 rfl rfl (ol' C 145 at_142 rfl (by decide) ?_))))
        refine oa' C 147 at_145 rfl rfl (or' C 150 at_147 rfl (by decide) (oe' C 151 (1 : Int32) at_150 rfl (by decide) (os' C (pc' := 155) at_151 (by decide) (by decide) (om1' C (t := .boolean) (z := (1 : Int32)) at_155 rfl (by decide) (by decide) (by decide) (by decide) ?_))))
        exact rfl
      · skip
        refine on' C (pc' := 52) at_45 (flt hc).2.1 (by decide) (by decide) (ou' C 53 at_52 rfl rfl (ou' C 54 at_53 rfl rfl (oh1' C 55 (XT.cmpL v w) at_54 rfl rfl ?_)))
        by_cases hqe : (XT.cmpL v w) = (0 : Int32)
        · skip
          refine or' C 58 at_55 rfl (teq hqe).2 (oe' C 59 (0 : Int32) at_58 rfl (by decide) (os' C (pc' := 63) at_59 (by decide) (by decide) (of' C 65 (Ls' := #[.val (.long v), .second, .val (.long w), .second, .val (.ref f5), .val (.ref f15), .val (.ref f25), .val (.int 0), .val (.int 0), .unset, .unset, .unset]) at_63 rfl rfl (oc' C 67 at_65 rfl rfl rfl ?_))))
          refine oc' C 69 at_67 rfl rfl rfl ?_
          have fx143 := ((fx7.keep K13).keep K23)
          have fx144 := ((fx8.keep K13 nin0).keep K23 nin0)
          have fx145 := ((fx9.keep K13 nin0).keep K23 nin0)
          have fx146 := (Num.keep K23 (Num.keep K13 fx10))
          refine oq' C (a := f5) (argsL := [(.ref f25)]) (W := 0) at_69 (hq hw 139 rfl) (hq hw 140 rfl) (nfS (hq hw 142 rfl)) (hq hw 142 rfl) (hq hw 141 rfl) fx143 (by decide) pd__Lcom_example_slicewise_slicewise_Fraction__I (cfc l Z a0 hw am (f := f5) (a := a6) (d := f25) (b := a26) (v := v) (w := w) fx143 fx144 fx145 fx146 fx27 fx28 fx29 fx30) rfl (Nat.le_of_eq rfl) rfl (by decide) mems0 ?_
          intro fv147 ph148 K149 fq150
          obtain ⟨r151, rfl, fx152⟩ := fq150
          refine ⟨[], fresh0, ?_⟩
          show Go l _ Z _ _ _ κ _ _ 72 _ [.int r151] 22 69
          refine of' C 74 (Ls' := #[.val (.long v), .second, .val (.long w), .second, .val (.ref f5), .val (.ref f15), .val (.ref f25), .val (.int 0), .val (.int 0), .val (.int r151), .unset, .unset]) at_72 rfl rfl (oa' C 76 at_74 rfl rfl (on' C (pc' := 83) at_76 (flt ((by rw [(tre fx152 rfl rfl (congrArg Int64.toInt (cmpL_eq.mp hqe)))]; decide) : ¬ (r151 < (0 : Int32)))).2.1 (by decide) (by decide) (oa' C 85 at_83 rfl rfl (or' C 88 at_85 rfl (teq ((tre fx152 rfl rfl (congrArg Int64.toInt (cmpL_eq.mp hqe))) : r151 = (0 : Int32))).2 ?_))))
          refine oe' C 89 (0 : Int32) at_88 rfl (by decide) (os' C (pc' := 93) at_89 (by decide) (by decide) (of' C 95 (Ls' := #[.val (.long v), .second, .val (.long w), .second, .val (.ref f5), .val (.ref f15), .val (.ref f25), .val (.int 0), .val (.int 0), .val (.int r151), .val (.int 0), .unset]) at_93 rfl rfl (ou' C 96 at_95 rfl rfl (ou' C 97 at_96 rfl rfl ?_))))
          refine oh1' C 98 (XT.cmpL v w) at_97 rfl rfl (or' C 101 at_98 rfl (teq (hqe : (XT.cmpL v w) = (0 : Int32))).2 (oc' C 103 at_101 rfl rfl rfl (oc' C 105 at_103 rfl rfl rfl ?_)))
          have fx153 := (fx143.keep K149)
          have fx154 := (fx144.keep K149 nin0)
          have fx155 := (fx145.keep K149 nin0)
          have fx156 := (Num.keep K149 fx146)
          have fx157 := (fx27.keep K149)
          have fx158 := (fx28.keep K149 nin0)
          have fx159 := (fx29.keep K149 nin0)
          have fx160 := (Num.keep K149 fx30)
          refine oq' C (a := f5) (argsL := [(.ref f25)]) (W := 0) at_105 (hq hw 183 rfl) (hq hw 184 rfl) (nfS (hq hw 186 rfl)) (hq hw 186 rfl) (hq hw 185 rfl) fx153 (by decide) pd__Ljava_lang_Object__Z (cfeq l Z a0 hw am (f := f5) (a := a6) (d := f25) (b := a26) (v := v) (w := w) fx153 fx154 fx155 fx156 fx157 fx158 fx159 fx160 (cmpL_eq.mp hqe).symm) rfl (Nat.le_of_eq rfl) rfl (by decide) mems0 ?_
          intro fv161 ph162 K163 fq164
          obtain ⟨rfl, rfl⟩ := fq164
          refine ⟨[], fresh0, ?_⟩
          show Go l _ Z _ _ _ κ _ _ 108 _ [.int 1] 22 69
          refine or' C 111 at_108 rfl (by decide) (oe' C 112 (1 : Int32) at_111 rfl (by decide) (os' C (pc' := 116) at_112 (by decide) (by decide) (of' C 118 (Ls' := #[.val (.long v), .second, .val (.long w), .second, .val (.ref f5), .val (.ref f15), .val (.ref f25), .val (.int 0), .val (.int 0), .val (.int r151), .val (.int 0), .val (.int 1)]) at_116 rfl rfl (oc' C 120 at_118 rfl rfl rfl ?_))))
          refine oc' C 122 at_120 rfl rfl rfl ?_
          have fx165 := ((fx17.keep K23).keep K149)
          have fx166 := ((fx18.keep K23 nin0).keep K149 nin0)
          have fx167 := ((fx19.keep K23 nin0).keep K149 nin0)
          have fx168 := (Num.keep K149 (Num.keep K23 fx20))
          refine oq' C (a := f5) (argsL := [(.ref f15)]) (W := 0) at_122 (hq hw 183 rfl) (hq hw 184 rfl) (nfS (hq hw 186 rfl)) (hq hw 186 rfl) (hq hw 185 rfl) fx153 (by decide) pd__Ljava_lang_Object__Z (cfeq l Z a0 hw am (f := f5) (a := a6) (d := f15) (b := a16) (v := v) (w := v) fx153 fx154 fx155 fx156 fx165 fx166 fx167 fx168 rfl) rfl (Nat.le_of_eq rfl) rfl (by decide) mems0 ?_
          intro fv169 ph170 K171 fq172
          obtain ⟨rfl, rfl⟩ := fq172
          refine ⟨[], fresh0, ?_⟩
          show Go l _ Z _ _ _ κ _ _ 125 _ [.int 1] 22 69
          refine or' C 128 at_125 rfl (by decide) (oc' C 130 at_128 rfl rfl rfl (oq' C (a := f5) (argsL := []) (W := 0) at_130 (hq hw 189 rfl) (hq hw 190 rfl) (nfS (hq hw 192 rfl)) (hq hw 192 rfl) (hq hw 191 rfl) fx153 (by decide) pd___I (cfsg l Z a0 hw am (f := f5) (a := a6) (v := v) fx153 fx154 fx155 fx156) rfl (Nat.le_of_eq rfl) rfl (by decide) mems0 ?_))
          intro fv173 ph174 K175 fq176
          obtain ⟨rfl, rfl⟩ := fq176
          refine ⟨[], fresh0, ?_⟩
          show Go l _ Z _ _ _ κ _ _ 133 _ [(.int (sg3 v))] 22 69
          refine oa' C 135 at_133 rfl rfl (ol' C 138 at_135 rfl (teq (sg3_z (cmpL_eq.mp hz) : (sg3 v) = (0 : Int32))).2 (oa' C 140 at_138 rfl rfl (oa' C 142 at_140 rfl rfl (ol' C 145 at_142 rfl (by decide) ?_))))
          refine oa' C 147 at_145 rfl rfl (or' C 150 at_147 rfl (by decide) (oe' C 151 (1 : Int32) at_150 rfl (by decide) (os' C (pc' := 155) at_151 (by decide) (by decide) (om1' C (t := .boolean) (z := (1 : Int32)) at_155 rfl (by decide) (by decide) (by decide) (by decide) ?_))))
          exact rfl
        · skip
          refine on' C (pc' := 62) at_55 (feq hqe).2 (by decide) (by decide) (oe' C 63 (1 : Int32) at_62 rfl (by decide) (of' C 65 (Ls' := #[.val (.long v), .second, .val (.long w), .second, .val (.ref f5), .val (.ref f15), .val (.ref f25), .val (.int 0), .val (.int 1), .unset, .unset, .unset]) at_63 rfl rfl (oc' C 67 at_65 rfl rfl rfl (oc' C 69 at_67 rfl rfl rfl ?_))))
          have fx177 := ((fx7.keep K13).keep K23)
          have fx178 := ((fx8.keep K13 nin0).keep K23 nin0)
          have fx179 := ((fx9.keep K13 nin0).keep K23 nin0)
          have fx180 := (Num.keep K23 (Num.keep K13 fx10))
          refine oq' C (a := f5) (argsL := [(.ref f25)]) (W := 0) at_69 (hq hw 139 rfl) (hq hw 140 rfl) (nfS (hq hw 142 rfl)) (hq hw 142 rfl) (hq hw 141 rfl) fx177 (by decide) pd__Lcom_example_slicewise_slicewise_Fraction__I (cfc l Z a0 hw am (f := f5) (a := a6) (d := f25) (b := a26) (v := v) (w := w) fx177 fx178 fx179 fx180 fx27 fx28 fx29 fx30) rfl (Nat.le_of_eq rfl) rfl (by decide) mems0 ?_
          intro fv181 ph182 K183 fq184
          obtain ⟨r185, rfl, fx186⟩ := fq184
          refine ⟨[], fresh0, ?_⟩
          show Go l _ Z _ _ _ κ _ _ 72 _ [.int r185] 22 69
          refine of' C 74 (Ls' := #[.val (.long v), .second, .val (.long w), .second, .val (.ref f5), .val (.ref f15), .val (.ref f25), .val (.int 0), .val (.int 1), .val (.int r185), .unset, .unset]) at_72 rfl rfl (oa' C 76 at_74 rfl rfl (on' C (pc' := 83) at_76 (flt ((by rw [(trg fx186 rfl rfl (Int64.lt_iff_toInt_lt.mp (cmpL_gt2 hc hqe)))]; decide) : ¬ (r185 < (0 : Int32)))).2.1 (by decide) (by decide) (oa' C 85 at_83 rfl rfl (on' C (pc' := 92) at_85 (feq ((by rw [(trg fx186 rfl rfl (Int64.lt_iff_toInt_lt.mp (cmpL_gt2 hc hqe)))]; decide) : ¬ (r185 = (0 : Int32)))).2 (by decide) (by decide) ?_))))
          refine oe' C 93 (1 : Int32) at_92 rfl (by decide) (of' C 95 (Ls' := #[.val (.long v), .second, .val (.long w), .second, .val (.ref f5), .val (.ref f15), .val (.ref f25), .val (.int 0), .val (.int 1), .val (.int r185), .val (.int 1), .unset]) at_93 rfl rfl (ou' C 96 at_95 rfl rfl (ou' C 97 at_96 rfl rfl (oh1' C 98 (XT.cmpL v w) at_97 rfl rfl ?_))))
          refine on' C (pc' := 111) at_98 (feq (hqe : ¬ ((XT.cmpL v w) = (0 : Int32)))).2 (by decide) (by decide) (oe' C 112 (1 : Int32) at_111 rfl (by decide) (os' C (pc' := 116) at_112 (by decide) (by decide) (of' C 118 (Ls' := #[.val (.long v), .second, .val (.long w), .second, .val (.ref f5), .val (.ref f15), .val (.ref f25), .val (.int 0), .val (.int 1), .val (.int r185), .val (.int 1), .val (.int 1)]) at_116 rfl rfl (oc' C 120 at_118 rfl rfl rfl ?_))))
          refine oc' C 122 at_120 rfl rfl rfl ?_
          have fx187 := (fx177.keep K183)
          have fx188 := (fx178.keep K183 nin0)
          have fx189 := (fx179.keep K183 nin0)
          have fx190 := (Num.keep K183 fx180)
          have fx191 := ((fx17.keep K23).keep K183)
          have fx192 := ((fx18.keep K23 nin0).keep K183 nin0)
          have fx193 := ((fx19.keep K23 nin0).keep K183 nin0)
          have fx194 := (Num.keep K183 (Num.keep K23 fx20))
          refine oq' C (a := f5) (argsL := [(.ref f15)]) (W := 0) at_122 (hq hw 183 rfl) (hq hw 184 rfl) (nfS (hq hw 186 rfl)) (hq hw 186 rfl) (hq hw 185 rfl) fx187 (by decide) pd__Ljava_lang_Object__Z (cfeq l Z a0 hw am (f := f5) (a := a6) (d := f15) (b := a16) (v := v) (w := v) fx187 fx188 fx189 fx190 fx191 fx192 fx193 fx194 rfl) rfl (Nat.le_of_eq rfl) rfl (by decide) mems0 ?_
          intro fv195 ph196 K197 fq198
          obtain ⟨rfl, rfl⟩ := fq198
          refine ⟨[], fresh0, ?_⟩
          show Go l _ Z _ _ _ κ _ _ 125 _ [.int 1] 22 69
          refine or' C 128 at_125 rfl (by decide) (oc' C 130 at_128 rfl rfl rfl (oq' C (a := f5) (argsL := []) (W := 0) at_130 (hq hw 189 rfl) (hq hw 190 rfl) (nfS (hq hw 192 rfl)) (hq hw 192 rfl) (hq hw 191 rfl) fx187 (by decide) pd___I (cfsg l Z a0 hw am (f := f5) (a := a6) (v := v) fx187 fx188 fx189 fx190) rfl (Nat.le_of_eq rfl) rfl (by decide) mems0 ?_))
          intro fv199 ph200 K201 fq202
          obtain ⟨rfl, rfl⟩ := fq202
          refine ⟨[], fresh0, ?_⟩
          show Go l _ Z _ _ _ κ _ _ 133 _ [(.int (sg3 v))] 22 69
          refine oa' C 135 at_133 rfl rfl (ol' C 138 at_135 rfl (teq (sg3_z (cmpL_eq.mp hz) : (sg3 v) = (0 : Int32))).2 (oa' C 140 at_138 rfl rfl (oa' C 142 at_140 rfl rfl (ol' C 145 at_142 rfl (by decide) ?_))))
          refine oa' C 147 at_145 rfl rfl (or' C 150 at_147 rfl (by decide) (oe' C 151 (1 : Int32) at_150 rfl (by decide) (os' C (pc' := 155) at_151 (by decide) (by decide) (om1' C (t := .boolean) (z := (1 : Int32)) at_155 rfl (by decide) (by decide) (by decide) (by decide) ?_))))
          exact rfl
    · skip
      refine on' C (pc' := 39) at_32 (feq hz).2 (by decide) (by decide) (oe' C 40 (1 : Int32) at_39 rfl (by decide) (of' C 42 (Ls' := #[.val (.long v), .second, .val (.long w), .second, .val (.ref f5), .val (.ref f15), .val (.ref f25), .val (.int 1), .unset, .unset, .unset, .unset]) at_40 rfl rfl (ou' C 43 at_42 rfl rfl (ou' C 44 at_43 rfl rfl ?_))))
      refine oh1' C 45 (XT.cmpL v w) at_44 rfl rfl ?_
      by_cases hc : (XT.cmpL v w) < (0 : Int32)
      · skip
        refine or' C 48 at_45 rfl (tlt hc).2.1 (oe' C 49 (-1 : Int32) at_48 rfl (by decide) (os' C (pc' := 63) at_49 (by decide) (by decide) (of' C 65 (Ls' := #[.val (.long v), .second, .val (.long w), .second, .val (.ref f5), .val (.ref f15), .val (.ref f25), .val (.int 1), .val (.int (-1 : Int32)), .unset, .unset, .unset]) at_63 rfl rfl (oc' C 67 at_65 rfl rfl rfl ?_))))
        refine oc' C 69 at_67 rfl rfl rfl ?_
        have fx203 := ((fx7.keep K13).keep K23)
        have fx204 := ((fx8.keep K13 nin0).keep K23 nin0)
        have fx205 := ((fx9.keep K13 nin0).keep K23 nin0)
        have fx206 := (Num.keep K23 (Num.keep K13 fx10))
        refine oq' C (a := f5) (argsL := [(.ref f25)]) (W := 0) at_69 (hq hw 139 rfl) (hq hw 140 rfl) (nfS (hq hw 142 rfl)) (hq hw 142 rfl) (hq hw 141 rfl) fx203 (by decide) pd__Lcom_example_slicewise_slicewise_Fraction__I (cfc l Z a0 hw am (f := f5) (a := a6) (d := f25) (b := a26) (v := v) (w := w) fx203 fx204 fx205 fx206 fx27 fx28 fx29 fx30) rfl (Nat.le_of_eq rfl) rfl (by decide) mems0 ?_
        intro fv207 ph208 K209 fq210
        obtain ⟨r211, rfl, fx212⟩ := fq210
        refine ⟨[], fresh0, ?_⟩
        show Go l _ Z _ _ _ κ _ _ 72 _ [.int r211] 22 69
        refine of' C 74 (Ls' := #[.val (.long v), .second, .val (.long w), .second, .val (.ref f5), .val (.ref f15), .val (.ref f25), .val (.int 1), .val (.int (-1 : Int32)), .val (.int r211), .unset, .unset]) at_72 rfl rfl (oa' C 76 at_74 rfl rfl (or' C 79 at_76 rfl (tlt ((by rw [(trl fx212 rfl rfl (Int64.lt_iff_toInt_lt.mp (cmpL_lt.mp hc)))]; decide) : r211 < (0 : Int32))).2.1 (oe' C 80 (-1 : Int32) at_79 rfl (by decide) (os' C (pc' := 93) at_80 (by decide) (by decide) ?_))))
        refine of' C 95 (Ls' := #[.val (.long v), .second, .val (.long w), .second, .val (.ref f5), .val (.ref f15), .val (.ref f25), .val (.int 1), .val (.int (-1 : Int32)), .val (.int r211), .val (.int (-1 : Int32)), .unset]) at_93 rfl rfl (ou' C 96 at_95 rfl rfl (ou' C 97 at_96 rfl rfl (oh1' C 98 (XT.cmpL v w) at_97 rfl rfl (on' C (pc' := 111) at_98 (feq ((fun z => absurd hc (by rw [z]; decide)) : ¬ ((XT.cmpL v w) = (0 : Int32)))).2 (by decide) (by decide) ?_))))
        refine oe' C 112 (1 : Int32) at_111 rfl (by decide) (os' C (pc' := 116) at_112 (by decide) (by decide) (of' C 118 (Ls' := #[.val (.long v), .second, .val (.long w), .second, .val (.ref f5), .val (.ref f15), .val (.ref f25), .val (.int 1), .val (.int (-1 : Int32)), .val (.int r211), .val (.int (-1 : Int32)), .val (.int 1)]) at_116 rfl rfl (oc' C 120 at_118 rfl rfl rfl (oc' C 122 at_120 rfl rfl rfl ?_))))
        have fx213 := (fx203.keep K209)
        have fx214 := (fx204.keep K209 nin0)
        have fx215 := (fx205.keep K209 nin0)
        have fx216 := (Num.keep K209 fx206)
        have fx217 := ((fx17.keep K23).keep K209)
        have fx218 := ((fx18.keep K23 nin0).keep K209 nin0)
        have fx219 := ((fx19.keep K23 nin0).keep K209 nin0)
        have fx220 := (Num.keep K209 (Num.keep K23 fx20))
        refine oq' C (a := f5) (argsL := [(.ref f15)]) (W := 0) at_122 (hq hw 183 rfl) (hq hw 184 rfl) (nfS (hq hw 186 rfl)) (hq hw 186 rfl) (hq hw 185 rfl) fx213 (by decide) pd__Ljava_lang_Object__Z (cfeq l Z a0 hw am (f := f5) (a := a6) (d := f15) (b := a16) (v := v) (w := v) fx213 fx214 fx215 fx216 fx217 fx218 fx219 fx220 rfl) rfl (Nat.le_of_eq rfl) rfl (by decide) mems0 ?_
        intro fv221 ph222 K223 fq224
        obtain ⟨rfl, rfl⟩ := fq224
        refine ⟨[], fresh0, ?_⟩
        show Go l _ Z _ _ _ κ _ _ 125 _ [.int 1] 22 69
        refine or' C 128 at_125 rfl (by decide) (oc' C 130 at_128 rfl rfl rfl (oq' C (a := f5) (argsL := []) (W := 0) at_130 (hq hw 189 rfl) (hq hw 190 rfl) (nfS (hq hw 192 rfl)) (hq hw 192 rfl) (hq hw 191 rfl) fx213 (by decide) pd___I (cfsg l Z a0 hw am (f := f5) (a := a6) (v := v) fx213 fx214 fx215 fx216) rfl (Nat.le_of_eq rfl) rfl (by decide) mems0 ?_))
        intro fv225 ph226 K227 fq228
        obtain ⟨rfl, rfl⟩ := fq228
        refine ⟨[], fresh0, ?_⟩
        show Go l _ Z _ _ _ κ _ _ 133 _ [(.int (sg3 v))] 22 69
        refine oa' C 135 at_133 rfl rfl (ol' C 138 at_135 rfl (teq (sg3_p (fun z => hs (cmpL_lt.mpr z)) (fun z => hz (cmpL_eq.mpr z)) : (sg3 v) = (1 : Int32))).2 (oa' C 140 at_138 rfl rfl (oa' C 142 at_140 rfl rfl (ol' C 145 at_142 rfl (by decide) ?_))))
        refine oa' C 147 at_145 rfl rfl (or' C 150 at_147 rfl (by decide) (oe' C 151 (1 : Int32) at_150 rfl (by decide) (os' C (pc' := 155) at_151 (by decide) (by decide) (om1' C (t := .boolean) (z := (1 : Int32)) at_155 rfl (by decide) (by decide) (by decide) (by decide) ?_))))
        exact rfl
      · skip
        refine on' C (pc' := 52) at_45 (flt hc).2.1 (by decide) (by decide) (ou' C 53 at_52 rfl rfl (ou' C 54 at_53 rfl rfl (oh1' C 55 (XT.cmpL v w) at_54 rfl rfl ?_)))
        by_cases hqe : (XT.cmpL v w) = (0 : Int32)
        · skip
          refine or' C 58 at_55 rfl (teq hqe).2 (oe' C 59 (0 : Int32) at_58 rfl (by decide) (os' C (pc' := 63) at_59 (by decide) (by decide) (of' C 65 (Ls' := #[.val (.long v), .second, .val (.long w), .second, .val (.ref f5), .val (.ref f15), .val (.ref f25), .val (.int 1), .val (.int 0), .unset, .unset, .unset]) at_63 rfl rfl (oc' C 67 at_65 rfl rfl rfl ?_))))
          refine oc' C 69 at_67 rfl rfl rfl ?_
          have fx229 := ((fx7.keep K13).keep K23)
          have fx230 := ((fx8.keep K13 nin0).keep K23 nin0)
          have fx231 := ((fx9.keep K13 nin0).keep K23 nin0)
          have fx232 := (Num.keep K23 (Num.keep K13 fx10))
          refine oq' C (a := f5) (argsL := [(.ref f25)]) (W := 0) at_69 (hq hw 139 rfl) (hq hw 140 rfl) (nfS (hq hw 142 rfl)) (hq hw 142 rfl) (hq hw 141 rfl) fx229 (by decide) pd__Lcom_example_slicewise_slicewise_Fraction__I (cfc l Z a0 hw am (f := f5) (a := a6) (d := f25) (b := a26) (v := v) (w := w) fx229 fx230 fx231 fx232 fx27 fx28 fx29 fx30) rfl (Nat.le_of_eq rfl) rfl (by decide) mems0 ?_
          intro fv233 ph234 K235 fq236
          obtain ⟨r237, rfl, fx238⟩ := fq236
          refine ⟨[], fresh0, ?_⟩
          show Go l _ Z _ _ _ κ _ _ 72 _ [.int r237] 22 69
          refine of' C 74 (Ls' := #[.val (.long v), .second, .val (.long w), .second, .val (.ref f5), .val (.ref f15), .val (.ref f25), .val (.int 1), .val (.int 0), .val (.int r237), .unset, .unset]) at_72 rfl rfl (oa' C 76 at_74 rfl rfl (on' C (pc' := 83) at_76 (flt ((by rw [(tre fx238 rfl rfl (congrArg Int64.toInt (cmpL_eq.mp hqe)))]; decide) : ¬ (r237 < (0 : Int32)))).2.1 (by decide) (by decide) (oa' C 85 at_83 rfl rfl (or' C 88 at_85 rfl (teq ((tre fx238 rfl rfl (congrArg Int64.toInt (cmpL_eq.mp hqe))) : r237 = (0 : Int32))).2 ?_))))
          refine oe' C 89 (0 : Int32) at_88 rfl (by decide) (os' C (pc' := 93) at_89 (by decide) (by decide) (of' C 95 (Ls' := #[.val (.long v), .second, .val (.long w), .second, .val (.ref f5), .val (.ref f15), .val (.ref f25), .val (.int 1), .val (.int 0), .val (.int r237), .val (.int 0), .unset]) at_93 rfl rfl (ou' C 96 at_95 rfl rfl (ou' C 97 at_96 rfl rfl ?_))))
          refine oh1' C 98 (XT.cmpL v w) at_97 rfl rfl (or' C 101 at_98 rfl (teq (hqe : (XT.cmpL v w) = (0 : Int32))).2 (oc' C 103 at_101 rfl rfl rfl (oc' C 105 at_103 rfl rfl rfl ?_)))
          have fx239 := (fx229.keep K235)
          have fx240 := (fx230.keep K235 nin0)
          have fx241 := (fx231.keep K235 nin0)
          have fx242 := (Num.keep K235 fx232)
          have fx243 := (fx27.keep K235)
          have fx244 := (fx28.keep K235 nin0)
          have fx245 := (fx29.keep K235 nin0)
          have fx246 := (Num.keep K235 fx30)
          refine oq' C (a := f5) (argsL := [(.ref f25)]) (W := 0) at_105 (hq hw 183 rfl) (hq hw 184 rfl) (nfS (hq hw 186 rfl)) (hq hw 186 rfl) (hq hw 185 rfl) fx239 (by decide) pd__Ljava_lang_Object__Z (cfeq l Z a0 hw am (f := f5) (a := a6) (d := f25) (b := a26) (v := v) (w := w) fx239 fx240 fx241 fx242 fx243 fx244 fx245 fx246 (cmpL_eq.mp hqe).symm) rfl (Nat.le_of_eq rfl) rfl (by decide) mems0 ?_
          intro fv247 ph248 K249 fq250
          obtain ⟨rfl, rfl⟩ := fq250
          refine ⟨[], fresh0, ?_⟩
          show Go l _ Z _ _ _ κ _ _ 108 _ [.int 1] 22 69
          refine or' C 111 at_108 rfl (by decide) (oe' C 112 (1 : Int32) at_111 rfl (by decide) (os' C (pc' := 116) at_112 (by decide) (by decide) (of' C 118 (Ls' := #[.val (.long v), .second, .val (.long w), .second, .val (.ref f5), .val (.ref f15), .val (.ref f25), .val (.int 1), .val (.int 0), .val (.int r237), .val (.int 0), .val (.int 1)]) at_116 rfl rfl (oc' C 120 at_118 rfl rfl rfl ?_))))
          refine oc' C 122 at_120 rfl rfl rfl ?_
          have fx251 := ((fx17.keep K23).keep K235)
          have fx252 := ((fx18.keep K23 nin0).keep K235 nin0)
          have fx253 := ((fx19.keep K23 nin0).keep K235 nin0)
          have fx254 := (Num.keep K235 (Num.keep K23 fx20))
          refine oq' C (a := f5) (argsL := [(.ref f15)]) (W := 0) at_122 (hq hw 183 rfl) (hq hw 184 rfl) (nfS (hq hw 186 rfl)) (hq hw 186 rfl) (hq hw 185 rfl) fx239 (by decide) pd__Ljava_lang_Object__Z (cfeq l Z a0 hw am (f := f5) (a := a6) (d := f15) (b := a16) (v := v) (w := v) fx239 fx240 fx241 fx242 fx251 fx252 fx253 fx254 rfl) rfl (Nat.le_of_eq rfl) rfl (by decide) mems0 ?_
          intro fv255 ph256 K257 fq258
          obtain ⟨rfl, rfl⟩ := fq258
          refine ⟨[], fresh0, ?_⟩
          show Go l _ Z _ _ _ κ _ _ 125 _ [.int 1] 22 69
          refine or' C 128 at_125 rfl (by decide) (oc' C 130 at_128 rfl rfl rfl (oq' C (a := f5) (argsL := []) (W := 0) at_130 (hq hw 189 rfl) (hq hw 190 rfl) (nfS (hq hw 192 rfl)) (hq hw 192 rfl) (hq hw 191 rfl) fx239 (by decide) pd___I (cfsg l Z a0 hw am (f := f5) (a := a6) (v := v) fx239 fx240 fx241 fx242) rfl (Nat.le_of_eq rfl) rfl (by decide) mems0 ?_))
          intro fv259 ph260 K261 fq262
          obtain ⟨rfl, rfl⟩ := fq262
          refine ⟨[], fresh0, ?_⟩
          show Go l _ Z _ _ _ κ _ _ 133 _ [(.int (sg3 v))] 22 69
          refine oa' C 135 at_133 rfl rfl (ol' C 138 at_135 rfl (teq (sg3_p (fun z => hs (cmpL_lt.mpr z)) (fun z => hz (cmpL_eq.mpr z)) : (sg3 v) = (1 : Int32))).2 (oa' C 140 at_138 rfl rfl (oa' C 142 at_140 rfl rfl (ol' C 145 at_142 rfl (by decide) ?_))))
          refine oa' C 147 at_145 rfl rfl (or' C 150 at_147 rfl (by decide) (oe' C 151 (1 : Int32) at_150 rfl (by decide) (os' C (pc' := 155) at_151 (by decide) (by decide) (om1' C (t := .boolean) (z := (1 : Int32)) at_155 rfl (by decide) (by decide) (by decide) (by decide) ?_))))
          exact rfl
        · skip
          refine on' C (pc' := 62) at_55 (feq hqe).2 (by decide) (by decide) (oe' C 63 (1 : Int32) at_62 rfl (by decide) (of' C 65 (Ls' := #[.val (.long v), .second, .val (.long w), .second, .val (.ref f5), .val (.ref f15), .val (.ref f25), .val (.int 1), .val (.int 1), .unset, .unset, .unset]) at_63 rfl rfl (oc' C 67 at_65 rfl rfl rfl (oc' C 69 at_67 rfl rfl rfl ?_))))
          have fx263 := ((fx7.keep K13).keep K23)
          have fx264 := ((fx8.keep K13 nin0).keep K23 nin0)
          have fx265 := ((fx9.keep K13 nin0).keep K23 nin0)
          have fx266 := (Num.keep K23 (Num.keep K13 fx10))
          refine oq' C (a := f5) (argsL := [(.ref f25)]) (W := 0) at_69 (hq hw 139 rfl) (hq hw 140 rfl) (nfS (hq hw 142 rfl)) (hq hw 142 rfl) (hq hw 141 rfl) fx263 (by decide) pd__Lcom_example_slicewise_slicewise_Fraction__I (cfc l Z a0 hw am (f := f5) (a := a6) (d := f25) (b := a26) (v := v) (w := w) fx263 fx264 fx265 fx266 fx27 fx28 fx29 fx30) rfl (Nat.le_of_eq rfl) rfl (by decide) mems0 ?_
          intro fv267 ph268 K269 fq270
          obtain ⟨r271, rfl, fx272⟩ := fq270
          refine ⟨[], fresh0, ?_⟩
          show Go l _ Z _ _ _ κ _ _ 72 _ [.int r271] 22 69
          refine of' C 74 (Ls' := #[.val (.long v), .second, .val (.long w), .second, .val (.ref f5), .val (.ref f15), .val (.ref f25), .val (.int 1), .val (.int 1), .val (.int r271), .unset, .unset]) at_72 rfl rfl (oa' C 76 at_74 rfl rfl (on' C (pc' := 83) at_76 (flt ((by rw [(trg fx272 rfl rfl (Int64.lt_iff_toInt_lt.mp (cmpL_gt2 hc hqe)))]; decide) : ¬ (r271 < (0 : Int32)))).2.1 (by decide) (by decide) (oa' C 85 at_83 rfl rfl (on' C (pc' := 92) at_85 (feq ((by rw [(trg fx272 rfl rfl (Int64.lt_iff_toInt_lt.mp (cmpL_gt2 hc hqe)))]; decide) : ¬ (r271 = (0 : Int32)))).2 (by decide) (by decide) ?_))))
          refine oe' C 93 (1 : Int32) at_92 rfl (by decide) (of' C 95 (Ls' := #[.val (.long v), .second, .val (.long w), .second, .val (.ref f5), .val (.ref f15), .val (.ref f25), .val (.int 1), .val (.int 1), .val (.int r271), .val (.int 1), .unset]) at_93 rfl rfl (ou' C 96 at_95 rfl rfl (ou' C 97 at_96 rfl rfl (oh1' C 98 (XT.cmpL v w) at_97 rfl rfl ?_))))
          refine on' C (pc' := 111) at_98 (feq (hqe : ¬ ((XT.cmpL v w) = (0 : Int32)))).2 (by decide) (by decide) (oe' C 112 (1 : Int32) at_111 rfl (by decide) (os' C (pc' := 116) at_112 (by decide) (by decide) (of' C 118 (Ls' := #[.val (.long v), .second, .val (.long w), .second, .val (.ref f5), .val (.ref f15), .val (.ref f25), .val (.int 1), .val (.int 1), .val (.int r271), .val (.int 1), .val (.int 1)]) at_116 rfl rfl (oc' C 120 at_118 rfl rfl rfl ?_))))
          refine oc' C 122 at_120 rfl rfl rfl ?_
          have fx273 := (fx263.keep K269)
          have fx274 := (fx264.keep K269 nin0)
          have fx275 := (fx265.keep K269 nin0)
          have fx276 := (Num.keep K269 fx266)
          have fx277 := ((fx17.keep K23).keep K269)
          have fx278 := ((fx18.keep K23 nin0).keep K269 nin0)
          have fx279 := ((fx19.keep K23 nin0).keep K269 nin0)
          have fx280 := (Num.keep K269 (Num.keep K23 fx20))
          refine oq' C (a := f5) (argsL := [(.ref f15)]) (W := 0) at_122 (hq hw 183 rfl) (hq hw 184 rfl) (nfS (hq hw 186 rfl)) (hq hw 186 rfl) (hq hw 185 rfl) fx273 (by decide) pd__Ljava_lang_Object__Z (cfeq l Z a0 hw am (f := f5) (a := a6) (d := f15) (b := a16) (v := v) (w := v) fx273 fx274 fx275 fx276 fx277 fx278 fx279 fx280 rfl) rfl (Nat.le_of_eq rfl) rfl (by decide) mems0 ?_
          intro fv281 ph282 K283 fq284
          obtain ⟨rfl, rfl⟩ := fq284
          refine ⟨[], fresh0, ?_⟩
          show Go l _ Z _ _ _ κ _ _ 125 _ [.int 1] 22 69
          refine or' C 128 at_125 rfl (by decide) (oc' C 130 at_128 rfl rfl rfl (oq' C (a := f5) (argsL := []) (W := 0) at_130 (hq hw 189 rfl) (hq hw 190 rfl) (nfS (hq hw 192 rfl)) (hq hw 192 rfl) (hq hw 191 rfl) fx273 (by decide) pd___I (cfsg l Z a0 hw am (f := f5) (a := a6) (v := v) fx273 fx274 fx275 fx276) rfl (Nat.le_of_eq rfl) rfl (by decide) mems0 ?_))
          intro fv285 ph286 K287 fq288
          obtain ⟨rfl, rfl⟩ := fq288
          refine ⟨[], fresh0, ?_⟩
          show Go l _ Z _ _ _ κ _ _ 133 _ [(.int (sg3 v))] 22 69
          refine oa' C 135 at_133 rfl rfl (ol' C 138 at_135 rfl (teq (sg3_p (fun z => hs (cmpL_lt.mpr z)) (fun z => hz (cmpL_eq.mpr z)) : (sg3 v) = (1 : Int32))).2 (oa' C 140 at_138 rfl rfl (oa' C 142 at_140 rfl rfl (ol' C 145 at_142 rfl (by decide) ?_))))
          refine oa' C 147 at_145 rfl rfl (or' C 150 at_147 rfl (by decide) (oe' C 151 (1 : Int32) at_150 rfl (by decide) (os' C (pc' := 155) at_151 (by decide) (by decide) (om1' C (t := .boolean) (z := (1 : Int32)) at_155 rfl (by decide) (by decide) (by decide) (by decide) ?_))))
          exact rfl
theorem comes_1 {Post : Tables → Env → Array Value → State → Outcome → State → Prop} (hpost : ∀ tb e args s v u, (limb_1_1.after args s (.returned v) u = true ∧ limb_1_2.after args s (.returned v) u = true ∧ True) → FrameEnd s (.returned v) u (Jvm.fieldLocs frame_1_writes args s ++ Jvm.arrayLocs frame_1_arrays args s ++ Jvm.staticLocs frame_1_statics s) 56 256 → Post tb e args s (.returned v) u) :
    ArmFor flags0 classFile x code maxLocals ret World_1 tables_1 room_1 Calls_1 rest_1 Pre_1 Post := by
  intro l hfl _ _ p e ha hc hk s m args below hf hA hF happ hP
  obtain ⟨hcalls, hrest, hpre⟩ := hP
  obtain ⟨-, -, -, hnamed, -, -, -, hat⟩ := (Spec.applies_iff hf).mp happ
  obtain ⟨hg, hn⟩ := and_e (Cond.before_iff.mp (show (Jvm.Cond.and given_1 narrow_1).before args s = true from hpre))
  obtain ⟨g0, gr0⟩ := and_e hg
  obtain ⟨g1, gr1⟩ := and_e gr0
  have g2 := gr1
  obtain ⟨w0, w1, rfl⟩ : ∃ w0 w1 : Value, args = #[w0, w1] := by
    have hs : args.size = 2 := by simpa [Cond.value, given_1] using g0
    obtain ⟨L⟩ := args
    match L, hs with
    | [w0, w1], _ => exact ⟨w0, w1, rfl⟩
  have hw := fun d (hd : d ∈ tables_1) => atoms_spec (ws := Jvm.Cond.code x code maxLocals ret :: tables_1) hat d (List.mem_cons_of_mem _ hd)
  have hfit : Fit s := fun {y c} hc i hi => by
    obtain ⟨ha, rfl⟩ := Array.getElem?_eq_some_iff.mp hc
    have q := List.all_eq_true.mp ((Array.all_eq_true_iff_forall_mem.mp hF) _ (Array.getElem_mem ha)) i (List.mem_range.mpr hi)
    simpa [Array.getElem?_eq_getElem hi] using q
  obtain ⟨hsets, hown0⟩ := atoms_of _ (rest_1_c_eq ▸ (show rest_1_c.before _ s = true from hrest))
  obtain ⟨i0, ei0⟩ := isL_v g1
  obtain rfl : w0 = (.long i0) := Option.some.inj ei0
  obtain ⟨i1, ei1⟩ := isL_v g2
  obtain rfl : w1 = (.long i1) := Option.some.inj ei1
  obtain ⟨one, t1, k1, eo, o1, o2, o3, o4, o5⟩ := big_s hfit (hsets _ (List.mem_of_getElem? (i := 112) rfl)) (hsets _ (List.mem_of_getElem? (i := 113) rfl)) (hsets _ (List.mem_of_getElem? (i := 114) rfl)) (hsets _ (List.mem_of_getElem? (i := 115) rfl)) (hsets _ (List.mem_of_getElem? (i := 116) rfl)) (hsets _ (List.mem_of_getElem? (i := 117) rfl))
  obtain ⟨zero, t0, k0, ez, z1, z2, z3, z4, z5⟩ := zero_s hfit (hsets _ (List.mem_of_getElem? (i := 224) rfl)) (hsets _ (List.mem_of_getElem? (i := 225) rfl)) (hsets _ (List.mem_of_getElem? (i := 226) rfl)) (hsets _ (List.mem_of_getElem? (i := 227) rfl)) (hsets _ (List.mem_of_getElem? (i := 228) rfl))
  have S1 : Sta s s.heap "java/math/BigInteger" "ONE" "Ljava/math/BigInteger;" (.ref one) := Sta.start eo (Or.inl (hsets _ (List.mem_of_getElem? (i := 3) rfl)))
  have S2 : Sta s s.heap "java/math/BigInteger" "ZERO" "Ljava/math/BigInteger;" (.ref zero) := Sta.start ez (Or.inl (hsets _ (List.mem_of_getElem? (i := 223) rfl)))
  have vpos := Cond.before_iff.mp (hsets _ (List.mem_of_getElem? (i := 8) rfl))
  obtain ⟨pos, epos⟩ := arr_v vpos
  obtain ⟨clpos, Apos, qpos, lpos, hpos⟩ := arr_s epos vpos (Cond.before_iff.mp (hsets _ (List.mem_of_getElem? (i := 10) rfl)))
  have Spos : Sta s s.heap "java/math/BigInteger" "posConst" "[Ljava/math/BigInteger;" (.ref pos) := Sta.start epos (Or.inl (hsets _ (List.mem_of_getElem? (i := 1) rfl)))
  have Vpos := arvT (d := .null) hfit Apos qpos lpos (by decide)
  have allpos : ∀ v : Int64, (0 : Int64) < v → ¬ (16 : Int64) < v → Held s clpos.slots.toList v.toInt32 v := by
    intro v h h2
    rcases v16 h h2 with rfl | rfl | rfl | rfl | rfl | rfl | rfl | rfl | rfl | rfl | rfl | rfl | rfl | rfl | rfl | rfl
    · exact held_s epos hpos (big_s hfit (hsets _ (List.mem_of_getElem? (i := 12) rfl)) (hsets _ (List.mem_of_getElem? (i := 13) rfl)) (hsets _ (List.mem_of_getElem? (i := 14) rfl)) (hsets _ (List.mem_of_getElem? (i := 15) rfl)) (hsets _ (List.mem_of_getElem? (i := 16) rfl)) (hsets _ (List.mem_of_getElem? (i := 17) rfl))) (by decide) (by decide) (by decide)
    · exact held_s epos hpos (big_s hfit (hsets _ (List.mem_of_getElem? (i := 19) rfl)) (hsets _ (List.mem_of_getElem? (i := 20) rfl)) (hsets _ (List.mem_of_getElem? (i := 21) rfl)) (hsets _ (List.mem_of_getElem? (i := 22) rfl)) (hsets _ (List.mem_of_getElem? (i := 23) rfl)) (hsets _ (List.mem_of_getElem? (i := 24) rfl))) (by decide) (by decide) (by decide)
    · exact held_s epos hpos (big_s hfit (hsets _ (List.mem_of_getElem? (i := 25) rfl)) (hsets _ (List.mem_of_getElem? (i := 26) rfl)) (hsets _ (List.mem_of_getElem? (i := 27) rfl)) (hsets _ (List.mem_of_getElem? (i := 28) rfl)) (hsets _ (List.mem_of_getElem? (i := 29) rfl)) (hsets _ (List.mem_of_getElem? (i := 30) rfl))) (by decide) (by decide) (by decide)
    · exact held_s epos hpos (big_s hfit (hsets _ (List.mem_of_getElem? (i := 31) rfl)) (hsets _ (List.mem_of_getElem? (i := 32) rfl)) (hsets _ (List.mem_of_getElem? (i := 33) rfl)) (hsets _ (List.mem_of_getElem? (i := 34) rfl)) (hsets _ (List.mem_of_getElem? (i := 35) rfl)) (hsets _ (List.mem_of_getElem? (i := 36) rfl))) (by decide) (by decide) (by decide)
    · exact held_s epos hpos (big_s hfit (hsets _ (List.mem_of_getElem? (i := 37) rfl)) (hsets _ (List.mem_of_getElem? (i := 38) rfl)) (hsets _ (List.mem_of_getElem? (i := 39) rfl)) (hsets _ (List.mem_of_getElem? (i := 40) rfl)) (hsets _ (List.mem_of_getElem? (i := 41) rfl)) (hsets _ (List.mem_of_getElem? (i := 42) rfl))) (by decide) (by decide) (by decide)
    · exact held_s epos hpos (big_s hfit (hsets _ (List.mem_of_getElem? (i := 43) rfl)) (hsets _ (List.mem_of_getElem? (i := 44) rfl)) (hsets _ (List.mem_of_getElem? (i := 45) rfl)) (hsets _ (List.mem_of_getElem? (i := 46) rfl)) (hsets _ (List.mem_of_getElem? (i := 47) rfl)) (hsets _ (List.mem_of_getElem? (i := 48) rfl))) (by decide) (by decide) (by decide)
    · exact held_s epos hpos (big_s hfit (hsets _ (List.mem_of_getElem? (i := 49) rfl)) (hsets _ (List.mem_of_getElem? (i := 50) rfl)) (hsets _ (List.mem_of_getElem? (i := 51) rfl)) (hsets _ (List.mem_of_getElem? (i := 52) rfl)) (hsets _ (List.mem_of_getElem? (i := 53) rfl)) (hsets _ (List.mem_of_getElem? (i := 54) rfl))) (by decide) (by decide) (by decide)
    · exact held_s epos hpos (big_s hfit (hsets _ (List.mem_of_getElem? (i := 55) rfl)) (hsets _ (List.mem_of_getElem? (i := 56) rfl)) (hsets _ (List.mem_of_getElem? (i := 57) rfl)) (hsets _ (List.mem_of_getElem? (i := 58) rfl)) (hsets _ (List.mem_of_getElem? (i := 59) rfl)) (hsets _ (List.mem_of_getElem? (i := 60) rfl))) (by decide) (by decide) (by decide)
    · exact held_s epos hpos (big_s hfit (hsets _ (List.mem_of_getElem? (i := 61) rfl)) (hsets _ (List.mem_of_getElem? (i := 62) rfl)) (hsets _ (List.mem_of_getElem? (i := 63) rfl)) (hsets _ (List.mem_of_getElem? (i := 64) rfl)) (hsets _ (List.mem_of_getElem? (i := 65) rfl)) (hsets _ (List.mem_of_getElem? (i := 66) rfl))) (by decide) (by decide) (by decide)
    · exact held_s epos hpos (big_s hfit (hsets _ (List.mem_of_getElem? (i := 68) rfl)) (hsets _ (List.mem_of_getElem? (i := 69) rfl)) (hsets _ (List.mem_of_getElem? (i := 70) rfl)) (hsets _ (List.mem_of_getElem? (i := 71) rfl)) (hsets _ (List.mem_of_getElem? (i := 72) rfl)) (hsets _ (List.mem_of_getElem? (i := 73) rfl))) (by decide) (by decide) (by decide)
    · exact held_s epos hpos (big_s hfit (hsets _ (List.mem_of_getElem? (i := 74) rfl)) (hsets _ (List.mem_of_getElem? (i := 75) rfl)) (hsets _ (List.mem_of_getElem? (i := 76) rfl)) (hsets _ (List.mem_of_getElem? (i := 77) rfl)) (hsets _ (List.mem_of_getElem? (i := 78) rfl)) (hsets _ (List.mem_of_getElem? (i := 79) rfl))) (by decide) (by decide) (by decide)
    · exact held_s epos hpos (big_s hfit (hsets _ (List.mem_of_getElem? (i := 80) rfl)) (hsets _ (List.mem_of_getElem? (i := 81) rfl)) (hsets _ (List.mem_of_getElem? (i := 82) rfl)) (hsets _ (List.mem_of_getElem? (i := 83) rfl)) (hsets _ (List.mem_of_getElem? (i := 84) rfl)) (hsets _ (List.mem_of_getElem? (i := 85) rfl))) (by decide) (by decide) (by decide)
    · exact held_s epos hpos (big_s hfit (hsets _ (List.mem_of_getElem? (i := 86) rfl)) (hsets _ (List.mem_of_getElem? (i := 87) rfl)) (hsets _ (List.mem_of_getElem? (i := 88) rfl)) (hsets _ (List.mem_of_getElem? (i := 89) rfl)) (hsets _ (List.mem_of_getElem? (i := 90) rfl)) (hsets _ (List.mem_of_getElem? (i := 91) rfl))) (by decide) (by decide) (by decide)
    · exact held_s epos hpos (big_s hfit (hsets _ (List.mem_of_getElem? (i := 92) rfl)) (hsets _ (List.mem_of_getElem? (i := 93) rfl)) (hsets _ (List.mem_of_getElem? (i := 94) rfl)) (hsets _ (List.mem_of_getElem? (i := 95) rfl)) (hsets _ (List.mem_of_getElem? (i := 96) rfl)) (hsets _ (List.mem_of_getElem? (i := 97) rfl))) (by decide) (by decide) (by decide)
    · exact held_s epos hpos (big_s hfit (hsets _ (List.mem_of_getElem? (i := 98) rfl)) (hsets _ (List.mem_of_getElem? (i := 99) rfl)) (hsets _ (List.mem_of_getElem? (i := 100) rfl)) (hsets _ (List.mem_of_getElem? (i := 101) rfl)) (hsets _ (List.mem_of_getElem? (i := 102) rfl)) (hsets _ (List.mem_of_getElem? (i := 103) rfl))) (by decide) (by decide) (by decide)
    · exact held_s epos hpos (big_s hfit (hsets _ (List.mem_of_getElem? (i := 104) rfl)) (hsets _ (List.mem_of_getElem? (i := 105) rfl)) (hsets _ (List.mem_of_getElem? (i := 106) rfl)) (hsets _ (List.mem_of_getElem? (i := 107) rfl)) (hsets _ (List.mem_of_getElem? (i := 108) rfl)) (hsets _ (List.mem_of_getElem? (i := 109) rfl))) (by decide) (by decide) (by decide)
  have vneg := Cond.before_iff.mp (hsets _ (List.mem_of_getElem? (i := 122) rfl))
  obtain ⟨neg, eneg⟩ := arr_v vneg
  obtain ⟨clneg, Aneg, qneg, lneg, hneg⟩ := arr_s eneg vneg (Cond.before_iff.mp (hsets _ (List.mem_of_getElem? (i := 124) rfl)))
  have Sneg : Sta s s.heap "java/math/BigInteger" "negConst" "[Ljava/math/BigInteger;" (.ref neg) := Sta.start eneg (Or.inl (hsets _ (List.mem_of_getElem? (i := 119) rfl)))
  have Vneg := arvT (d := .null) hfit Aneg qneg lneg (by decide)
  have allneg : ∀ v : Int64, v < (0 : Int64) → ¬ v < (-16 : Int64) → Held s clneg.slots.toList (-v).toInt32 v := by
    intro v h h2
    rcases vm16 h h2 with rfl | rfl | rfl | rfl | rfl | rfl | rfl | rfl | rfl | rfl | rfl | rfl | rfl | rfl | rfl | rfl
    · exact held_s eneg hneg (big_s hfit (hsets _ (List.mem_of_getElem? (i := 126) rfl)) (hsets _ (List.mem_of_getElem? (i := 127) rfl)) (hsets _ (List.mem_of_getElem? (i := 128) rfl)) (hsets _ (List.mem_of_getElem? (i := 129) rfl)) (hsets _ (List.mem_of_getElem? (i := 130) rfl)) (hsets _ (List.mem_of_getElem? (i := 131) rfl))) (by decide) (by decide) (by decide)
    · exact held_s eneg hneg (big_s hfit (hsets _ (List.mem_of_getElem? (i := 132) rfl)) (hsets _ (List.mem_of_getElem? (i := 133) rfl)) (hsets _ (List.mem_of_getElem? (i := 134) rfl)) (hsets _ (List.mem_of_getElem? (i := 135) rfl)) (hsets _ (List.mem_of_getElem? (i := 136) rfl)) (hsets _ (List.mem_of_getElem? (i := 137) rfl))) (by decide) (by decide) (by decide)
    · exact held_s eneg hneg (big_s hfit (hsets _ (List.mem_of_getElem? (i := 138) rfl)) (hsets _ (List.mem_of_getElem? (i := 139) rfl)) (hsets _ (List.mem_of_getElem? (i := 140) rfl)) (hsets _ (List.mem_of_getElem? (i := 141) rfl)) (hsets _ (List.mem_of_getElem? (i := 142) rfl)) (hsets _ (List.mem_of_getElem? (i := 143) rfl))) (by decide) (by decide) (by decide)
    · exact held_s eneg hneg (big_s hfit (hsets _ (List.mem_of_getElem? (i := 144) rfl)) (hsets _ (List.mem_of_getElem? (i := 145) rfl)) (hsets _ (List.mem_of_getElem? (i := 146) rfl)) (hsets _ (List.mem_of_getElem? (i := 147) rfl)) (hsets _ (List.mem_of_getElem? (i := 148) rfl)) (hsets _ (List.mem_of_getElem? (i := 149) rfl))) (by decide) (by decide) (by decide)
    · exact held_s eneg hneg (big_s hfit (hsets _ (List.mem_of_getElem? (i := 150) rfl)) (hsets _ (List.mem_of_getElem? (i := 151) rfl)) (hsets _ (List.mem_of_getElem? (i := 152) rfl)) (hsets _ (List.mem_of_getElem? (i := 153) rfl)) (hsets _ (List.mem_of_getElem? (i := 154) rfl)) (hsets _ (List.mem_of_getElem? (i := 155) rfl))) (by decide) (by decide) (by decide)
    · exact held_s eneg hneg (big_s hfit (hsets _ (List.mem_of_getElem? (i := 156) rfl)) (hsets _ (List.mem_of_getElem? (i := 157) rfl)) (hsets _ (List.mem_of_getElem? (i := 158) rfl)) (hsets _ (List.mem_of_getElem? (i := 159) rfl)) (hsets _ (List.mem_of_getElem? (i := 160) rfl)) (hsets _ (List.mem_of_getElem? (i := 161) rfl))) (by decide) (by decide) (by decide)
    · exact held_s eneg hneg (big_s hfit (hsets _ (List.mem_of_getElem? (i := 162) rfl)) (hsets _ (List.mem_of_getElem? (i := 163) rfl)) (hsets _ (List.mem_of_getElem? (i := 164) rfl)) (hsets _ (List.mem_of_getElem? (i := 165) rfl)) (hsets _ (List.mem_of_getElem? (i := 166) rfl)) (hsets _ (List.mem_of_getElem? (i := 167) rfl))) (by decide) (by decide) (by decide)
    · exact held_s eneg hneg (big_s hfit (hsets _ (List.mem_of_getElem? (i := 168) rfl)) (hsets _ (List.mem_of_getElem? (i := 169) rfl)) (hsets _ (List.mem_of_getElem? (i := 170) rfl)) (hsets _ (List.mem_of_getElem? (i := 171) rfl)) (hsets _ (List.mem_of_getElem? (i := 172) rfl)) (hsets _ (List.mem_of_getElem? (i := 173) rfl))) (by decide) (by decide) (by decide)
    · exact held_s eneg hneg (big_s hfit (hsets _ (List.mem_of_getElem? (i := 174) rfl)) (hsets _ (List.mem_of_getElem? (i := 175) rfl)) (hsets _ (List.mem_of_getElem? (i := 176) rfl)) (hsets _ (List.mem_of_getElem? (i := 177) rfl)) (hsets _ (List.mem_of_getElem? (i := 178) rfl)) (hsets _ (List.mem_of_getElem? (i := 179) rfl))) (by decide) (by decide) (by decide)
    · exact held_s eneg hneg (big_s hfit (hsets _ (List.mem_of_getElem? (i := 180) rfl)) (hsets _ (List.mem_of_getElem? (i := 181) rfl)) (hsets _ (List.mem_of_getElem? (i := 182) rfl)) (hsets _ (List.mem_of_getElem? (i := 183) rfl)) (hsets _ (List.mem_of_getElem? (i := 184) rfl)) (hsets _ (List.mem_of_getElem? (i := 185) rfl))) (by decide) (by decide) (by decide)
    · exact held_s eneg hneg (big_s hfit (hsets _ (List.mem_of_getElem? (i := 186) rfl)) (hsets _ (List.mem_of_getElem? (i := 187) rfl)) (hsets _ (List.mem_of_getElem? (i := 188) rfl)) (hsets _ (List.mem_of_getElem? (i := 189) rfl)) (hsets _ (List.mem_of_getElem? (i := 190) rfl)) (hsets _ (List.mem_of_getElem? (i := 191) rfl))) (by decide) (by decide) (by decide)
    · exact held_s eneg hneg (big_s hfit (hsets _ (List.mem_of_getElem? (i := 192) rfl)) (hsets _ (List.mem_of_getElem? (i := 193) rfl)) (hsets _ (List.mem_of_getElem? (i := 194) rfl)) (hsets _ (List.mem_of_getElem? (i := 195) rfl)) (hsets _ (List.mem_of_getElem? (i := 196) rfl)) (hsets _ (List.mem_of_getElem? (i := 197) rfl))) (by decide) (by decide) (by decide)
    · exact held_s eneg hneg (big_s hfit (hsets _ (List.mem_of_getElem? (i := 198) rfl)) (hsets _ (List.mem_of_getElem? (i := 199) rfl)) (hsets _ (List.mem_of_getElem? (i := 200) rfl)) (hsets _ (List.mem_of_getElem? (i := 201) rfl)) (hsets _ (List.mem_of_getElem? (i := 202) rfl)) (hsets _ (List.mem_of_getElem? (i := 203) rfl))) (by decide) (by decide) (by decide)
    · exact held_s eneg hneg (big_s hfit (hsets _ (List.mem_of_getElem? (i := 204) rfl)) (hsets _ (List.mem_of_getElem? (i := 205) rfl)) (hsets _ (List.mem_of_getElem? (i := 206) rfl)) (hsets _ (List.mem_of_getElem? (i := 207) rfl)) (hsets _ (List.mem_of_getElem? (i := 208) rfl)) (hsets _ (List.mem_of_getElem? (i := 209) rfl))) (by decide) (by decide) (by decide)
    · exact held_s eneg hneg (big_s hfit (hsets _ (List.mem_of_getElem? (i := 210) rfl)) (hsets _ (List.mem_of_getElem? (i := 211) rfl)) (hsets _ (List.mem_of_getElem? (i := 212) rfl)) (hsets _ (List.mem_of_getElem? (i := 213) rfl)) (hsets _ (List.mem_of_getElem? (i := 214) rfl)) (hsets _ (List.mem_of_getElem? (i := 215) rfl))) (by decide) (by decide) (by decide)
    · exact held_s eneg hneg (big_s hfit (hsets _ (List.mem_of_getElem? (i := 216) rfl)) (hsets _ (List.mem_of_getElem? (i := 217) rfl)) (hsets _ (List.mem_of_getElem? (i := 218) rfl)) (hsets _ (List.mem_of_getElem? (i := 219) rfl)) (hsets _ (List.mem_of_getElem? (i := 220) rfl)) (hsets _ (List.mem_of_getElem? (i := 221) rfl))) (by decide) (by decide) (by decide)
  have hone : clpos.slots.toList.getD (1 : Int32).toNatClampNeg .null = .ref one := by
    have w := Cond.before_iff.mp (hsets _ (List.mem_of_getElem? (i := 11) rfl))
    have z := elem_s epos hpos (eqv_r eo w)
    rw [List.getD_eq_getElem?_getD, Array.getElem?_toList, z]; rfl
  obtain ⟨n, o, h1, h2, h3, _, L, rfl, ⟨-, rfl, N⟩, hq⟩ := law0 l s _ hw (am := ⟨S1, S2, Spos, Sneg, o1, o2, o3, o4, o5, z1, z2, z3, z4, z5, Vpos, Vneg, hone, allpos, allneg⟩) (v := i0) (w := i1) (h0 := s.heap) (ext_refl _) (fun _ q => nomatch q) tables_1 p e ha hc hk s m _ below hf ((Spec.applies_iff_loose hf).mp happ).1 ⟨rfl, State.Warmed39.refl s, rfl⟩ trivial
  exact ⟨n, _, h1, h2, h3, hpost _ _ _ _ _ _ ⟨Cond.after_iff.mpr rfl, Cond.after_iff.mpr (eq_i res_at (Term.int_eval (1)) rfl), trivial⟩ ⟨hq.1, hq.2.1, (hq.2.2.sift fun y hy => Or.inr (N y hy)).mono (by decide) (by decide)⟩⟩
theorem main_1_1 : Claimed_1_1 := comes_1 fun _ _ _ _ _ _ h hF => ⟨h.1, hF⟩
theorem main_1_2 : Claimed_1_2 := comes_1 fun _ _ _ _ _ _ h hF => ⟨h.2.1, hF⟩
end Jvm.Pilot.@@N@@
namespace Jvm.Pilot.@@N@@
open Jvm Jvm.ClassFile Sem Op Lib Jvm.Free Jvm.Stand Jvm.Pilot.@@N@@.Jvm.D
/-! MADE BY PROGRAM (witnessworld.py) out of the Statement's table words and the real class files: 20 classes; the members and pool entries that the words name. The judged class is class 1, her method 1. -/
namespace start1
open Jvm.ClassFile
def u (s : String) : CpInfo := .utf8 (stringToUtf16 s)
/-- a pool by its gaps: so many unusable entries, then the entry; so many at the end -/
def gap : Nat → List CpInfo → List CpInfo
  | 0, r => r
  | n + 1, r => .unusable :: gap n r
def poolList (es : List (Nat × CpInfo)) (last : Nat) : List CpInfo := es.foldr (fun e r => gap e.1 (e.2 :: r)) (gap last [])
def pool (es : List (Nat × CpInfo)) (last : Nat) : Array CpInfo := ⟨poolList es last⟩
def fileOf (pool : Array CpInfo) (this : Nat) (attrs : Array Attribute := #[]) (ms : Array MethodInfo := #[]) (fl : Nat := 33) (sup : Nat := 0) (ifs : Array Nat := #[]) (fds : Array FieldInfo := #[]) : ClassFile where
  minorVersion := 0
  majorVersion := 65
  constantPool := pool
  accessFlags := fl
  thisClass := this
  superClass := sup
  interfaces := ifs
  fields := fds
  methods := ms
  attributes := attrs
def plain (name : String) (sup : Option ClassId) : Class where
  name := name
  kind := .ordinary
  loader := none
  accessFlags := 33
  super := sup
  interfaces := #[]
  cf := none
  fields := #[]
  methods := #[]
  instanceTypes := #[]
  staticTypes := #[]
  resolved := #[]
  callSites := []
  init := .initialized
  statics := none
  mirror := none

def pool0 : Array CpInfo := pool [(5, u "<init>"), (0, u "()V"), (1, .class_ 10), (1, u "java/lang/Object"), (85, u "clone"), (0, u "()Ljava/lang/Object;")] 26

def k0c0 : Code := { maxStack := 0, maxLocals := 1, code := object_method_1_code, exceptionTable := #[], attributes := #[] }
def k0m0 : Method := { name := "<init>", desc := "()V", sig := { parameters := [], returnType := none }, accessFlags := 1, code := some k0c0 }
def k0m1 : Method := { name := "clone", desc := "()Ljava/lang/Object;", sig := { parameters := [], returnType := some (.object "java/lang/Object") }, accessFlags := 260, code := none }
/-- java/lang/Object -/
def k0 : Class := { plain "java/lang/Object" none with
  accessFlags := 33
  interfaces := #[]
  cf := some (fileOf pool0 8 #[] #[{ accessFlags := 1, nameIndex := 5, descriptorIndex := 6, attributes := #[] }, { accessFlags := 260, nameIndex := 96, descriptorIndex := 97, attributes := #[] }] 33 0 #[] #[])
  fields := #[]
  methods := #[k0m0, k0m1]
  instanceTypes := #[]
  staticTypes := #[]
  resolved := Array.replicate 124 none
  statics := none }

def pool1 : Array CpInfo := pool [(2, .class_ 4), (1, u "java/lang/Object"), (0, u "<init>"), (0, u "()V"), (0, .methodref 8 9), (0, .class_ 10), (0, .nameAndType 11 12), (0, u "com/example/slicewise/slicewise/Fraction"), (0, u "of"), (0, u "(J)Lcom/example/slicewise/slicewise/Fraction;"), (0, .methodref 8 14), (0, .nameAndType 11 15), (0, u "(JJ)Lcom/example/slicewise/slicewise/Fraction;"), (0, .methodref 8 17), (0, .nameAndType 18 19), (0, u "compareTo"), (0, u "(Lcom/example/slicewise/slicewise/Fraction;)I"), (0, .methodref 8 21), (0, .nameAndType 22 23), (0, u "equals"), (0, u "(Ljava/lang/Object;)Z"), (0, .methodref 8 25), (0, .nameAndType 26 27), (0, u "signum"), (0, u "()I"), (0, .class_ 29), (0, u "com/example/slicewise/slicewise/FractionOfPinLaw"), (2, u "law"), (0, u "(JJ)Z")] 3

def k1m0 : Method := { name := "<init>", desc := "()V", sig := { parameters := [], returnType := none }, accessFlags := 1, code := none }
def k1c1 : Code := { maxStack := 4, maxLocals := 12, code := code, exceptionTable := #[], attributes := #[] }
def k1m1 : Method := { name := "law", desc := "(JJ)Z", sig := { parameters := [.long, .long], returnType := some .boolean }, accessFlags := 9, code := some k1c1 }
/-- com/example/slicewise/slicewise/FractionOfPinLaw -/
def k1 : Class := { plain "com/example/slicewise/slicewise/FractionOfPinLaw" (some 0) with
  accessFlags := 49
  interfaces := #[]
  cf := some (fileOf pool1 28 #[] #[{ accessFlags := 1, nameIndex := 5, descriptorIndex := 6, attributes := #[] }, { accessFlags := 9, nameIndex := 32, descriptorIndex := 33, attributes := #[] }] 49 2 #[] #[])
  fields := #[]
  methods := #[k1m0, k1m1]
  instanceTypes := #[]
  staticTypes := #[]
  resolved := Array.replicate 37 none
  statics := none }

def pool2 : Array CpInfo := pool [(1, .class_ 2), (0, u "java/lang/Comparable"), (0, .class_ 4), (0, u "java/lang/Object")] 7

/-- java/lang/Comparable -/
def k2 : Class := { plain "java/lang/Comparable" (some 0) with
  accessFlags := 1537
  interfaces := #[]
  cf := some (fileOf pool2 1 #[] #[] 1537 3 #[] #[])
  fields := #[]
  methods := #[]
  instanceTypes := #[]
  staticTypes := #[]
  resolved := Array.replicate 12 none
  statics := none }

def pool3 : Array CpInfo := pool [(1, .methodref 2 3), (0, .class_ 4), (0, .nameAndType 5 6), (0, u "java/lang/Object"), (0, u "<init>"), (0, u "()V"), (0, .fieldref 8 9), (0, .class_ 10), (0, .nameAndType 11 12), (0, u "com/example/slicewise/slicewise/Fraction"), (0, u "numerator"), (0, u "Ljava/math/BigInteger;"), (0, .fieldref 8 14), (0, .nameAndType 15 12), (0, u "denominator"), (0, .methodref 17 18), (0, .class_ 19), (0, .nameAndType 20 21), (0, u "java/math/BigInteger"), (0, u "signum"), (0, u "()I"), (11, .methodref 17 34), (0, .nameAndType 35 36), (0, u "gcd"), (0, u "(Ljava/math/BigInteger;)Ljava/math/BigInteger;"), (0, .fieldref 17 38), (0, .nameAndType 39 12), (0, u "ONE"), (0, .methodref 17 41), (0, .nameAndType 42 43), (0, u "equals"), (0, u "(Ljava/lang/Object;)Z"), (3, .methodref 8 48), (0, .nameAndType 5 49), (0, u "(Ljava/math/BigInteger;Ljava/math/BigInteger;)V"), (0, .methodref 17 51), (0, .nameAndType 52 53), (0, u "valueOf"), (0, u "(J)Ljava/math/BigInteger;"), (0, .methodref 8 55), (0, .nameAndType 56 57), (0, u "of"), (0, u "(Ljava/math/BigInteger;Ljava/math/BigInteger;)Lcom/example/slicewise/slicewise/Fraction;"), (18, .methodref 17 77), (0, .nameAndType 78 36), (0, u "multiply"), (11, u "compareTo"), (0, u "(Lcom/example/slicewise/slicewise/Fraction;)I"), (24, .methodref 17 117), (0, .nameAndType 90 118), (0, u "(Ljava/math/BigInteger;)I"), (25, u "ZERO"), (2, u "Lcom/example/slicewise/slicewise/Fraction;"), (2, .class_ 151), (0, u "java/lang/Comparable"), (3, u "(J)Lcom/example/slicewise/slicewise/Fraction;"), (0, u "(JJ)Lcom/example/slicewise/slicewise/Fraction;")] 34

def k3c0 : Code := { maxStack := 2, maxLocals := 3, code := prog_1_method_1_code, exceptionTable := #[], attributes := #[] }
def k3m0 : Method := { name := "<init>", desc := "(Ljava/math/BigInteger;Ljava/math/BigInteger;)V", sig := { parameters := [(.object "java/math/BigInteger"), (.object "java/math/BigInteger")], returnType := none }, accessFlags := 2, code := some k3c0 }
def k3c1 : Code := { maxStack := 4, maxLocals := 3, code := prog_1_method_2_code, exceptionTable := #[], attributes := #[] }
def k3m1 : Method := { name := "of", desc := "(Ljava/math/BigInteger;Ljava/math/BigInteger;)Lcom/example/slicewise/slicewise/Fraction;", sig := { parameters := [(.object "java/math/BigInteger"), (.object "java/math/BigInteger")], returnType := some (.object "com/example/slicewise/slicewise/Fraction") }, accessFlags := 9, code := some k3c1 }
def k3c2 : Code := { maxStack := 4, maxLocals := 2, code := prog_1_method_3_code, exceptionTable := #[], attributes := #[] }
def k3m2 : Method := { name := "of", desc := "(J)Lcom/example/slicewise/slicewise/Fraction;", sig := { parameters := [.long], returnType := some (.object "com/example/slicewise/slicewise/Fraction") }, accessFlags := 9, code := some k3c2 }
def k3c3 : Code := { maxStack := 3, maxLocals := 4, code := prog_1_method_4_code, exceptionTable := #[], attributes := #[] }
def k3m3 : Method := { name := "of", desc := "(JJ)Lcom/example/slicewise/slicewise/Fraction;", sig := { parameters := [.long, .long], returnType := some (.object "com/example/slicewise/slicewise/Fraction") }, accessFlags := 9, code := some k3c3 }
def k3c4 : Code := { maxStack := 1, maxLocals := 1, code := prog_1_method_11_code, exceptionTable := #[], attributes := #[] }
def k3m4 : Method := { name := "signum", desc := "()I", sig := { parameters := [], returnType := some .int }, accessFlags := 1, code := some k3c4 }
def k3c5 : Code := { maxStack := 3, maxLocals := 2, code := prog_1_method_19_code, exceptionTable := #[], attributes := #[] }
def k3m5 : Method := { name := "compareTo", desc := "(Lcom/example/slicewise/slicewise/Fraction;)I", sig := { parameters := [(.object "com/example/slicewise/slicewise/Fraction")], returnType := some .int }, accessFlags := 1, code := some k3c5 }
def k3c6 : Code := { maxStack := 2, maxLocals := 2, code := prog_1_method_20_code, exceptionTable := #[], attributes := #[] }
def k3m6 : Method := { name := "equals", desc := "(Ljava/lang/Object;)Z", sig := { parameters := [(.object "java/lang/Object")], returnType := some .boolean }, accessFlags := 1, code := some k3c6 }
/-- com/example/slicewise/slicewise/Fraction -/
def k3 : Class := { plain "com/example/slicewise/slicewise/Fraction" (some 0) with
  accessFlags := 49
  interfaces := #[2]
  cf := some (fileOf pool3 8 #[] #[{ accessFlags := 2, nameIndex := 5, descriptorIndex := 49, attributes := #[] }, { accessFlags := 9, nameIndex := 56, descriptorIndex := 57, attributes := #[] }, { accessFlags := 9, nameIndex := 56, descriptorIndex := 155, attributes := #[] }, { accessFlags := 9, nameIndex := 56, descriptorIndex := 156, attributes := #[] }, { accessFlags := 1, nameIndex := 20, descriptorIndex := 21, attributes := #[] }, { accessFlags := 1, nameIndex := 90, descriptorIndex := 91, attributes := #[] }, { accessFlags := 1, nameIndex := 42, descriptorIndex := 43, attributes := #[] }] 49 2 #[150] #[{ accessFlags := 25, nameIndex := 144, descriptorIndex := 147, attributes := #[] }, { accessFlags := 25, nameIndex := 39, descriptorIndex := 147, attributes := #[] }, { accessFlags := 18, nameIndex := 11, descriptorIndex := 12, attributes := #[] }, { accessFlags := 18, nameIndex := 15, descriptorIndex := 12, attributes := #[] }])
  fields := #[{ name := "ZERO", type := (.object "com/example/slicewise/slicewise/Fraction"), accessFlags := 25, slot := 0, constantValue := 0 }, { name := "ONE", type := (.object "com/example/slicewise/slicewise/Fraction"), accessFlags := 25, slot := 1, constantValue := 0 }, { name := "numerator", type := (.object "java/math/BigInteger"), accessFlags := 18, slot := 0, constantValue := 0 }, { name := "denominator", type := (.object "java/math/BigInteger"), accessFlags := 18, slot := 1, constantValue := 0 }]
  methods := #[k3m0, k3m1, k3m2, k3m3, k3m4, k3m5, k3m6]
  instanceTypes := #[(.object "java/math/BigInteger"), (.object "java/math/BigInteger")]
  staticTypes := #[(.object "com/example/slicewise/slicewise/Fraction"), (.object "com/example/slicewise/slicewise/Fraction")]
  resolved := Array.replicate 191 none
  statics := none }

def pool4 : Array CpInfo := pool [(1, .class_ 2), (0, u "java/io/Serializable"), (0, .class_ 4), (0, u "java/lang/Object")] 2

/-- java/io/Serializable -/
def k4 : Class := { plain "java/io/Serializable" (some 0) with
  accessFlags := 1537
  interfaces := #[]
  cf := some (fileOf pool4 1 #[] #[] 1537 3 #[] #[])
  fields := #[]
  methods := #[]
  instanceTypes := #[]
  staticTypes := #[]
  resolved := Array.replicate 7 none
  statics := none }

def pool5 : Array CpInfo := pool [(1, .methodref 2 3), (0, .class_ 4), (0, .nameAndType 5 6), (0, u "java/lang/Object"), (0, u "<init>"), (0, u "()V"), (1, .class_ 10), (1, u "java/lang/Number"), (2, .class_ 14), (0, u "java/io/Serializable"), (0, u "serialVersionUID"), (0, u "J")] 20

def k5c0 : Code := { maxStack := 1, maxLocals := 1, code := jdk_18_method_1_code, exceptionTable := #[], attributes := #[] }
def k5m0 : Method := { name := "<init>", desc := "()V", sig := { parameters := [], returnType := none }, accessFlags := 1, code := some k5c0 }
/-- java/lang/Number -/
def k5 : Class := { plain "java/lang/Number" (some 0) with
  accessFlags := 1057
  interfaces := #[4]
  cf := some (fileOf pool5 8 #[] #[{ accessFlags := 1, nameIndex := 5, descriptorIndex := 6, attributes := #[] }] 1057 2 #[13] #[{ accessFlags := 26, nameIndex := 15, descriptorIndex := 16, attributes := #[] }])
  fields := #[{ name := "serialVersionUID", type := .long, accessFlags := 26, slot := 0, constantValue := 0 }]
  methods := #[k5m0]
  instanceTypes := #[]
  staticTypes := #[.long]
  resolved := Array.replicate 37 none
  statics := none }

def pool6 : Array CpInfo := pool [(1, .class_ 2), (0, u "java/lang/Integer"), (0, .methodref 4 5), (0, .class_ 6), (0, .nameAndType 7 8), (0, u "java/lang/Number"), (0, u "<init>"), (0, u "()V"), (13, .fieldref 23 24), (0, .class_ 25), (0, .nameAndType 26 27), (0, u "java/math/BigInteger"), (0, u "ZERO"), (0, u "Ljava/math/BigInteger;"), (0, .fieldref 23 29), (0, .nameAndType 30 31), (0, u "mag"), (0, u "[I"), (0, .fieldref 23 33), (0, .nameAndType 34 35), (0, u "signum"), (0, u "I"), (7, .integer 67108864), (30, u "()I"), (7, u "(I)I"), (12, u "bitsPerDigit"), (0, u "[J"), (9, u "digitsPerInt"), (12, u "intRadix"), (10, .long 4294967295), (44, .methodref 23 176), (0, .nameAndType 7 177), (0, u "([II)V"), (2, u "SMALL_PRIME_PRODUCT"), (3, u "(Ljava/math/BigInteger;)Ljava/math/BigInteger;"), (34, u "(I)Ljava/math/BigInteger;"), (17, u "valueOf"), (0, u "(J)Ljava/math/BigInteger;"), (21, u "ONE"), (2, u "equals"), (0, u "(Ljava/lang/Object;)Z"), (2, u "TWO"), (30, u "abs"), (12, u "$assertionsDisabled"), (0, u "Z"), (5, u "multiply"), (3, u "()Ljava/math/BigInteger;"), (14, u "compareTo"), (0, u "(Ljava/math/BigInteger;)I"), (6, .long 16), (1, .fieldref 23 348), (0, .nameAndType 349 350), (0, u "posConst"), (0, u "[Ljava/math/BigInteger;"), (0, .long 18446744073709551600), (1, .fieldref 23 354), (0, .nameAndType 355 350), (0, u "negConst"), (0, .methodref 23 357), (0, .nameAndType 7 358), (0, u "(J)V"), (6, .methodref 23 366), (0, .nameAndType 367 338), (0, u "compareMagnitude"), (20, .methodref 389 390), (0, .class_ 391), (0, .nameAndType 392 393), (0, u "java/lang/System"), (0, u "arraycopy"), (0, u "(Ljava/lang/Object;ILjava/lang/Object;II)V"), (3, .methodref 23 398), (0, .nameAndType 318 399), (0, u "(Ljava/math/BigInteger;ZZI)Ljava/math/BigInteger;"), (3, .methodref 23 404), (0, .nameAndType 405 406), (0, u "multiplyByInt"), (0, u "([III)Ljava/math/BigInteger;"), (16, .methodref 1 424), (0, .nameAndType 425 82), (0, u "bitCount"), (0, .methodref 1 427), (0, .nameAndType 428 82), (0, u "numberOfTrailingZeros"), (0, .methodref 23 430), (0, .nameAndType 431 432), (0, u "shiftLeft"), (0, u "([II)[I"), (39, .class_ 474), (1, u "java/math/BigInteger$RecursiveOp"), (10, .methodref 23 486), (0, .nameAndType 298 322), (54, .class_ 542), (0, u "java/math/MutableBigInteger"), (5, .methodref 541 549), (0, .nameAndType 550 219), (0, u "toBigInteger"), (16, .methodref 541 568), (0, .nameAndType 7 569), (0, u "(Ljava/math/BigInteger;)V"), (11, u "NEGATIVE_ONE"), (16, .methodref 541 599), (0, .nameAndType 600 601), (0, u "hybridGCD"), (0, u "(Ljava/math/MutableBigInteger;)Ljava/math/MutableBigInteger;"), (0, .methodref 1 603), (0, .nameAndType 604 82), (0, u "numberOfLeadingZeros"), (2, u "bitLengthForInt"), (65, u "bnExpModThreshTable"), (72, u "lowestSetBitPlusTwo"), (2, u "bitLengthPlusOne"), (2, u "bitCountPlusOne"), (6, u "LOG_TWO"), (0, u "D"), (2, u "logCache"), (0, u "[D"), (13, u "NUM_ZEROS"), (2, u "ZEROS"), (0, u "Ljava/lang/String;"), (9, u "longRadix"), (5, u "digitsPerLong"), (22, u "powerCache"), (0, u "[[Ljava/math/BigInteger;"), (45, u "firstNonzeroIntNumPlusTwo"), (38, .class_ 909), (1, u "java/math/BigInteger$UnsafeHolder"), (141, u "TEN"), (106, u "serialPersistentFields"), (0, u "[Ljava/io/ObjectStreamField;"), (0, .class_ 1161), (0, u "java/lang/Comparable"), (0, u "LONG_MASK"), (0, u "J"), (1, u "MAX_MAG_LENGTH"), (0, u "PRIME_SEARCH_BIT_LENGTH_LIMIT"), (1, u "KARATSUBA_THRESHOLD"), (1, u "TOOM_COOK_THRESHOLD"), (1, u "KARATSUBA_SQUARE_THRESHOLD"), (1, u "TOOM_COOK_SQUARE_THRESHOLD"), (1, u "BURNIKEL_ZIEGLER_THRESHOLD"), (0, u "BURNIKEL_ZIEGLER_OFFSET"), (1, u "SCHOENHAGE_BASE_CONVERSION_THRESHOLD"), (1, u "MULTIPLY_SQUARE_THRESHOLD"), (0, u "MONTGOMERY_INTRINSIC_THRESHOLD"), (1, u "SMALL_PRIME_THRESHOLD"), (1, u "DEFAULT_PRIME_CERTAINTY"), (1, u "MAX_CONSTANT"), (3, u "serialVersionUID"), (186, u "gcd"), (151, .class_ 1532), (0, u "java/math/BigInteger$RecursiveOp$RecursiveSquare"), (0, .class_ 1534), (0, u "java/math/BigInteger$RecursiveOp$RecursiveMultiply")] 7

def k6c0 : Code := { maxStack := 2, maxLocals := 3, code := jdk_2097_method_25_code, exceptionTable := #[], attributes := #[] }
def k6m0 : Method := { name := "<init>", desc := "([II)V", sig := { parameters := [(.array .int), .int], returnType := none }, accessFlags := 0, code := some k6c0 }
def k6c1 : Code := { maxStack := 4, maxLocals := 2, code := jdk_2097_method_29_code, exceptionTable := #[], attributes := #[] }
def k6m1 : Method := { name := "valueOf", desc := "(J)Ljava/math/BigInteger;", sig := { parameters := [.long], returnType := some (.object "java/math/BigInteger") }, accessFlags := 9, code := some k6c1 }
def k6c2 : Code := { maxStack := 4, maxLocals := 4, code := jdk_2097_method_30_code, exceptionTable := #[], attributes := #[] }
def k6m2 : Method := { name := "<init>", desc := "(J)V", sig := { parameters := [.long], returnType := none }, accessFlags := 2, code := some k6c2 }
def k6c3 : Code := { maxStack := 5, maxLocals := 2, code := jdk_2097_method_40_code, exceptionTable := #[], attributes := #[] }
def k6m3 : Method := { name := "multiply", desc := "(Ljava/math/BigInteger;)Ljava/math/BigInteger;", sig := { parameters := [(.object "java/math/BigInteger")], returnType := some (.object "java/math/BigInteger") }, accessFlags := 1, code := some k6c3 }
def k6c4 : Code := { maxStack := 5, maxLocals := 9, code := jdk_2097_method_42_code, exceptionTable := #[], attributes := #[] }
def k6m4 : Method := { name := "multiply", desc := "(Ljava/math/BigInteger;ZZI)Ljava/math/BigInteger;", sig := { parameters := [(.object "java/math/BigInteger"), .boolean, .boolean, .int], returnType := some (.object "java/math/BigInteger") }, accessFlags := 2, code := some k6c4 }
def k6c5 : Code := { maxStack := 4, maxLocals := 13, code := jdk_2097_method_43_code, exceptionTable := #[], attributes := #[] }
def k6m5 : Method := { name := "multiplyByInt", desc := "([III)Ljava/math/BigInteger;", sig := { parameters := [(.array .int), .int, .int], returnType := some (.object "java/math/BigInteger") }, accessFlags := 10, code := some k6c5 }
def k6c6 : Code := { maxStack := 3, maxLocals := 5, code := jdk_2097_method_73_code, exceptionTable := #[], attributes := #[] }
def k6m6 : Method := { name := "gcd", desc := "(Ljava/math/BigInteger;)Ljava/math/BigInteger;", sig := { parameters := [(.object "java/math/BigInteger")], returnType := some (.object "java/math/BigInteger") }, accessFlags := 1, code := some k6c6 }
def k6c7 : Code := { maxStack := 2, maxLocals := 1, code := jdk_2097_method_74_code, exceptionTable := #[], attributes := #[] }
def k6m7 : Method := { name := "bitLengthForInt", desc := "(I)I", sig := { parameters := [.int], returnType := some .int }, accessFlags := 8, code := some k6c7 }
def k6c8 : Code := { maxStack := 1, maxLocals := 1, code := jdk_2097_method_79_code, exceptionTable := #[], attributes := #[] }
def k6m8 : Method := { name := "abs", desc := "()Ljava/math/BigInteger;", sig := { parameters := [], returnType := some (.object "java/math/BigInteger") }, accessFlags := 1, code := some k6c8 }
def k6c9 : Code := { maxStack := 1, maxLocals := 1, code := jdk_2097_method_81_code, exceptionTable := #[], attributes := #[] }
def k6m9 : Method := { name := "signum", desc := "()I", sig := { parameters := [], returnType := some .int }, accessFlags := 1, code := some k6c9 }
def k6c10 : Code := { maxStack := 5, maxLocals := 10, code := jdk_2097_method_102_code, exceptionTable := #[], attributes := #[] }
def k6m10 : Method := { name := "shiftLeft", desc := "([II)[I", sig := { parameters := [(.array .int), .int], returnType := some (.array .int) }, accessFlags := 10, code := some k6c10 }
def k6c11 : Code := { maxStack := 2, maxLocals := 2, code := jdk_2097_method_121_code, exceptionTable := #[], attributes := #[] }
def k6m11 : Method := { name := "compareTo", desc := "(Ljava/math/BigInteger;)I", sig := { parameters := [(.object "java/math/BigInteger")], returnType := some .int }, accessFlags := 1, code := some k6c11 }
def k6c12 : Code := { maxStack := 6, maxLocals := 9, code := jdk_2097_method_122_code, exceptionTable := #[], attributes := #[] }
def k6m12 : Method := { name := "compareMagnitude", desc := "(Ljava/math/BigInteger;)I", sig := { parameters := [(.object "java/math/BigInteger")], returnType := some .int }, accessFlags := 16, code := some k6c12 }
def k6c13 : Code := { maxStack := 3, maxLocals := 7, code := jdk_2097_method_124_code, exceptionTable := #[], attributes := #[] }
def k6m13 : Method := { name := "equals", desc := "(Ljava/lang/Object;)Z", sig := { parameters := [(.object "java/lang/Object")], returnType := some .boolean }, accessFlags := 1, code := some k6c13 }
/-- java/math/BigInteger -/
def k6 : Class := { plain "java/math/BigInteger" (some 5) with
  accessFlags := 33
  interfaces := #[2]
  cf := some (fileOf pool6 23 #[.nestMembers #[907, 472, 1531, 1533]] #[{ accessFlags := 0, nameIndex := 7, descriptorIndex := 177, attributes := #[] }, { accessFlags := 9, nameIndex := 237, descriptorIndex := 238, attributes := #[] }, { accessFlags := 2, nameIndex := 7, descriptorIndex := 358, attributes := #[] }, { accessFlags := 1, nameIndex := 318, descriptorIndex := 184, attributes := #[] }, { accessFlags := 2, nameIndex := 318, descriptorIndex := 399, attributes := #[] }, { accessFlags := 10, nameIndex := 405, descriptorIndex := 406, attributes := #[] }, { accessFlags := 1, nameIndex := 1379, descriptorIndex := 184, attributes := #[] }, { accessFlags := 8, nameIndex := 607, descriptorIndex := 82, attributes := #[] }, { accessFlags := 1, nameIndex := 298, descriptorIndex := 322, attributes := #[] }, { accessFlags := 1, nameIndex := 34, descriptorIndex := 74, attributes := #[] }, { accessFlags := 10, nameIndex := 431, descriptorIndex := 432, attributes := #[] }, { accessFlags := 1, nameIndex := 337, descriptorIndex := 338, attributes := #[] }, { accessFlags := 16, nameIndex := 367, descriptorIndex := 338, attributes := #[] }, { accessFlags := 1, nameIndex := 263, descriptorIndex := 264, attributes := #[] }] 33 4 #[1160] #[{ accessFlags := 16, nameIndex := 34, descriptorIndex := 35, attributes := #[] }, { accessFlags := 16, nameIndex := 30, descriptorIndex := 31, attributes := #[] }, { accessFlags := 2, nameIndex := 752, descriptorIndex := 35, attributes := #[] }, { accessFlags := 2, nameIndex := 749, descriptorIndex := 35, attributes := #[] }, { accessFlags := 2, nameIndex := 746, descriptorIndex := 35, attributes := #[] }, { accessFlags := 2, nameIndex := 868, descriptorIndex := 35, attributes := #[] }, { accessFlags := 24, nameIndex := 1162, descriptorIndex := 1163, attributes := #[] }, { accessFlags := 26, nameIndex := 1165, descriptorIndex := 35, attributes := #[] }, { accessFlags := 26, nameIndex := 1166, descriptorIndex := 35, attributes := #[] }, { accessFlags := 26, nameIndex := 1168, descriptorIndex := 35, attributes := #[] }, { accessFlags := 26, nameIndex := 1170, descriptorIndex := 35, attributes := #[] }, { accessFlags := 26, nameIndex := 1172, descriptorIndex := 35, attributes := #[] }, { accessFlags := 26, nameIndex := 1174, descriptorIndex := 35, attributes := #[] }, { accessFlags := 24, nameIndex := 1176, descriptorIndex := 35, attributes := #[] }, { accessFlags := 24, nameIndex := 1177, descriptorIndex := 35, attributes := #[] }, { accessFlags := 26, nameIndex := 1179, descriptorIndex := 35, attributes := #[] }, { accessFlags := 26, nameIndex := 1181, descriptorIndex := 35, attributes := #[] }, { accessFlags := 26, nameIndex := 1182, descriptorIndex := 35, attributes := #[] }, { accessFlags := 10, nameIndex := 95, descriptorIndex := 96, attributes := #[] }, { accessFlags := 26, nameIndex := 1184, descriptorIndex := 35, attributes := #[] }, { accessFlags := 26, nameIndex := 1186, descriptorIndex := 35, attributes := #[] }, { accessFlags := 26, nameIndex := 180, descriptorIndex := 27, attributes := #[] }, { accessFlags := 26, nameIndex := 1188, descriptorIndex := 35, attributes := #[] }, { accessFlags := 26, nameIndex := 349, descriptorIndex := 350, attributes := #[] }, { accessFlags := 26, nameIndex := 355, descriptorIndex := 350, attributes := #[] }, { accessFlags := 74, nameIndex := 821, descriptorIndex := 822, attributes := #[] }, { accessFlags := 26, nameIndex := 763, descriptorIndex := 764, attributes := #[] }, { accessFlags := 26, nameIndex := 759, descriptorIndex := 760, attributes := #[] }, { accessFlags := 25, nameIndex := 26, descriptorIndex := 27, attributes := #[] }, { accessFlags := 25, nameIndex := 260, descriptorIndex := 27, attributes := #[] }, { accessFlags := 25, nameIndex := 267, descriptorIndex := 27, attributes := #[] }, { accessFlags := 26, nameIndex := 581, descriptorIndex := 27, attributes := #[] }, { accessFlags := 25, nameIndex := 1051, descriptorIndex := 27, attributes := #[] }, { accessFlags := 8, nameIndex := 673, descriptorIndex := 31, attributes := #[] }, { accessFlags := 10, nameIndex := 778, descriptorIndex := 35, attributes := #[] }, { accessFlags := 26, nameIndex := 781, descriptorIndex := 782, attributes := #[] }, { accessFlags := 10, nameIndex := 798, descriptorIndex := 31, attributes := #[] }, { accessFlags := 10, nameIndex := 792, descriptorIndex := 350, attributes := #[] }, { accessFlags := 10, nameIndex := 106, descriptorIndex := 31, attributes := #[] }, { accessFlags := 10, nameIndex := 119, descriptorIndex := 31, attributes := #[] }, { accessFlags := 26, nameIndex := 1192, descriptorIndex := 1163, attributes := #[] }, { accessFlags := 26, nameIndex := 1158, descriptorIndex := 1159, attributes := #[] }, { accessFlags := 4120, nameIndex := 311, descriptorIndex := 312, attributes := #[] }])
  fields := #[{ name := "signum", type := .int, accessFlags := 16, slot := 0, constantValue := 0 }, { name := "mag", type := (.array .int), accessFlags := 16, slot := 1, constantValue := 0 }, { name := "bitCountPlusOne", type := .int, accessFlags := 2, slot := 2, constantValue := 0 }, { name := "bitLengthPlusOne", type := .int, accessFlags := 2, slot := 3, constantValue := 0 }, { name := "lowestSetBitPlusTwo", type := .int, accessFlags := 2, slot := 4, constantValue := 0 }, { name := "firstNonzeroIntNumPlusTwo", type := .int, accessFlags := 2, slot := 5, constantValue := 0 }, { name := "LONG_MASK", type := .long, accessFlags := 24, slot := 0, constantValue := 0 }, { name := "MAX_MAG_LENGTH", type := .int, accessFlags := 26, slot := 1, constantValue := 0 }, { name := "PRIME_SEARCH_BIT_LENGTH_LIMIT", type := .int, accessFlags := 26, slot := 2, constantValue := 0 }, { name := "KARATSUBA_THRESHOLD", type := .int, accessFlags := 26, slot := 3, constantValue := 0 }, { name := "TOOM_COOK_THRESHOLD", type := .int, accessFlags := 26, slot := 4, constantValue := 0 }, { name := "KARATSUBA_SQUARE_THRESHOLD", type := .int, accessFlags := 26, slot := 5, constantValue := 0 }, { name := "TOOM_COOK_SQUARE_THRESHOLD", type := .int, accessFlags := 26, slot := 6, constantValue := 0 }, { name := "BURNIKEL_ZIEGLER_THRESHOLD", type := .int, accessFlags := 24, slot := 7, constantValue := 0 }, { name := "BURNIKEL_ZIEGLER_OFFSET", type := .int, accessFlags := 24, slot := 8, constantValue := 0 }, { name := "SCHOENHAGE_BASE_CONVERSION_THRESHOLD", type := .int, accessFlags := 26, slot := 9, constantValue := 0 }, { name := "MULTIPLY_SQUARE_THRESHOLD", type := .int, accessFlags := 26, slot := 10, constantValue := 0 }, { name := "MONTGOMERY_INTRINSIC_THRESHOLD", type := .int, accessFlags := 26, slot := 11, constantValue := 0 }, { name := "bitsPerDigit", type := (.array .long), accessFlags := 10, slot := 12, constantValue := 0 }, { name := "SMALL_PRIME_THRESHOLD", type := .int, accessFlags := 26, slot := 13, constantValue := 0 }, { name := "DEFAULT_PRIME_CERTAINTY", type := .int, accessFlags := 26, slot := 14, constantValue := 0 }, { name := "SMALL_PRIME_PRODUCT", type := (.object "java/math/BigInteger"), accessFlags := 26, slot := 15, constantValue := 0 }, { name := "MAX_CONSTANT", type := .int, accessFlags := 26, slot := 16, constantValue := 0 }, { name := "posConst", type := (.array (.object "java/math/BigInteger")), accessFlags := 26, slot := 17, constantValue := 0 }, { name := "negConst", type := (.array (.object "java/math/BigInteger")), accessFlags := 26, slot := 18, constantValue := 0 }, { name := "powerCache", type := (.array (.array (.object "java/math/BigInteger"))), accessFlags := 74, slot := 19, constantValue := 0 }, { name := "logCache", type := (.array .double), accessFlags := 26, slot := 20, constantValue := 0 }, { name := "LOG_TWO", type := .double, accessFlags := 26, slot := 21, constantValue := 0 }, { name := "ZERO", type := (.object "java/math/BigInteger"), accessFlags := 25, slot := 22, constantValue := 0 }, { name := "ONE", type := (.object "java/math/BigInteger"), accessFlags := 25, slot := 23, constantValue := 0 }, { name := "TWO", type := (.object "java/math/BigInteger"), accessFlags := 25, slot := 24, constantValue := 0 }, { name := "NEGATIVE_ONE", type := (.object "java/math/BigInteger"), accessFlags := 26, slot := 25, constantValue := 0 }, { name := "TEN", type := (.object "java/math/BigInteger"), accessFlags := 25, slot := 26, constantValue := 0 }, { name := "bnExpModThreshTable", type := (.array .int), accessFlags := 8, slot := 27, constantValue := 0 }, { name := "NUM_ZEROS", type := .int, accessFlags := 10, slot := 28, constantValue := 0 }, { name := "ZEROS", type := (.object "java/lang/String"), accessFlags := 26, slot := 29, constantValue := 0 }, { name := "digitsPerLong", type := (.array .int), accessFlags := 10, slot := 30, constantValue := 0 }, { name := "longRadix", type := (.array (.object "java/math/BigInteger")), accessFlags := 10, slot := 31, constantValue := 0 }, { name := "digitsPerInt", type := (.array .int), accessFlags := 10, slot := 32, constantValue := 0 }, { name := "intRadix", type := (.array .int), accessFlags := 10, slot := 33, constantValue := 0 }, { name := "serialVersionUID", type := .long, accessFlags := 26, slot := 34, constantValue := 0 }, { name := "serialPersistentFields", type := (.array (.object "java/io/ObjectStreamField")), accessFlags := 26, slot := 35, constantValue := 0 }, { name := "$assertionsDisabled", type := .boolean, accessFlags := 4120, slot := 36, constantValue := 0 }]
  methods := #[k6m0, k6m1, k6m2, k6m3, k6m4, k6m5, k6m6, k6m7, k6m8, k6m9, k6m10, k6m11, k6m12, k6m13]
  instanceTypes := #[.int, (.array .int), .int, .int, .int, .int]
  staticTypes := #[.long, .int, .int, .int, .int, .int, .int, .int, .int, .int, .int, .int, (.array .long), .int, .int, (.object "java/math/BigInteger"), .int, (.array (.object "java/math/BigInteger")), (.array (.object "java/math/BigInteger")), (.array (.array (.object "java/math/BigInteger"))), (.array .double), .double, (.object "java/math/BigInteger"), (.object "java/math/BigInteger"), (.object "java/math/BigInteger"), (.object "java/math/BigInteger"), (.object "java/math/BigInteger"), (.array .int), .int, (.object "java/lang/String"), (.array .int), (.array (.object "java/math/BigInteger")), (.array .int), (.array .int), .long, (.array (.object "java/io/ObjectStreamField")), .boolean]
  resolved := Array.replicate 1542 none
  statics := some 0 }

def pool7 : Array CpInfo := pool [(1, .class_ 2), (0, u "java/math/BigInteger"), (2, .methodref 6 7), (0, .class_ 8), (0, .nameAndType 9 10), (0, u "java/lang/Object"), (0, u "<init>"), (0, u "()V"), (0, .fieldref 12 13), (0, .class_ 14), (0, .nameAndType 15 16), (0, u "java/math/MutableBigInteger"), (0, u "offset"), (0, u "I"), (0, .fieldref 12 18), (0, .nameAndType 19 20), (0, u "value"), (0, u "[I"), (0, .fieldref 12 22), (0, .nameAndType 23 16), (0, u "intLen"), (0, .fieldref 1 25), (0, .nameAndType 26 20), (0, u "mag"), (0, .methodref 28 29), (0, .class_ 30), (0, .nameAndType 31 32), (0, u "java/util/Arrays"), (0, u "copyOf"), (0, u "([II)[I"), (7, u "([II)V"), (2, u "$assertionsDisabled"), (0, u "Z"), (7, .long 4294967295), (5, .methodref 12 59), (0, .nameAndType 60 61), (0, u "getMagnitudeArray"), (0, u "()[I"), (0, .methodref 1 63), (0, .nameAndType 9 40), (0, .methodref 12 65), (0, .nameAndType 66 10), (0, u "normalize"), (6, u "toBigInteger"), (0, u "(I)Ljava/math/BigInteger;"), (13, .integer 2147483648), (0, .methodref 90 91), (0, .class_ 92), (0, .nameAndType 93 94), (0, u "java/lang/Integer"), (0, u "numberOfTrailingZeros"), (0, u "(I)I"), (13, .methodref 12 109), (0, .nameAndType 110 111), (0, u "rightShift"), (0, u "(I)V"), (0, .methodref 1 113), (0, .nameAndType 114 94), (0, u "bitLengthForInt"), (0, .methodref 12 116), (0, .nameAndType 117 111), (0, u "primitiveLeftShift"), (0, .methodref 12 119), (0, .nameAndType 120 111), (0, u "primitiveRightShift"), (10, .class_ 133), (1, u "java/lang/Math"), (1, u "(II)I"), (6, .methodref 12 143), (0, .nameAndType 144 145), (0, u "compare"), (0, u "(Ljava/math/MutableBigInteger;)I"), (31, .methodref 12 7), (6, .methodref 12 185), (0, .nameAndType 186 187), (0, u "getLowestSetBit"), (0, u "()I"), (57, u "(Ljava/math/BigInteger;)V"), (11, u "ONE"), (0, u "Ljava/math/MutableBigInteger;"), (70, .methodref 131 330), (0, .nameAndType 331 94), (0, u "abs"), (0, .methodref 12 333), (0, .nameAndType 334 335), (0, u "binaryGCD"), (0, u "(Ljava/math/MutableBigInteger;)Ljava/math/MutableBigInteger;"), (2, .methodref 12 339), (0, .nameAndType 340 135), (0, u "binaryGcd"), (0, .methodref 12 342), (0, .nameAndType 343 145), (0, u "difference"), (67, u "KNUTH_POW2_THRESH_LEN"), (2, u "KNUTH_POW2_THRESH_ZEROS"), (137, u "hybridGCD")] 37

def k7c0 : Code := { maxStack := 2, maxLocals := 1, code := jdk_2101_method_1_code, exceptionTable := #[], attributes := #[] }
def k7m0 : Method := { name := "<init>", desc := "()V", sig := { parameters := [], returnType := none }, accessFlags := 0, code := some k7c0 }
def k7c1 : Code := { maxStack := 3, maxLocals := 2, code := jdk_2101_method_4_code, exceptionTable := #[], attributes := #[] }
def k7m1 : Method := { name := "<init>", desc := "(Ljava/math/BigInteger;)V", sig := { parameters := [(.object "java/math/BigInteger")], returnType := none }, accessFlags := 0, code := some k7c1 }
def k7c2 : Code := { maxStack := 4, maxLocals := 2, code := jdk_2101_method_7_code, exceptionTable := #[], attributes := #[] }
def k7m2 : Method := { name := "getMagnitudeArray", desc := "()[I", sig := { parameters := [], returnType := some (.array .int) }, accessFlags := 2, code := some k7c2 }
def k7c3 : Code := { maxStack := 4, maxLocals := 2, code := jdk_2101_method_9_code, exceptionTable := #[], attributes := #[] }
def k7m3 : Method := { name := "toBigInteger", desc := "(I)Ljava/math/BigInteger;", sig := { parameters := [.int], returnType := some (.object "java/math/BigInteger") }, accessFlags := 0, code := some k7c3 }
def k7c4 : Code := { maxStack := 3, maxLocals := 8, code := jdk_2101_method_15_code, exceptionTable := #[], attributes := #[] }
def k7m4 : Method := { name := "compare", desc := "(Ljava/math/MutableBigInteger;)I", sig := { parameters := [(.object "java/math/MutableBigInteger")], returnType := some .int }, accessFlags := 16, code := some k7c4 }
def k7c5 : Code := { maxStack := 3, maxLocals := 3, code := jdk_2101_method_18_code, exceptionTable := #[], attributes := #[] }
def k7m5 : Method := { name := "getLowestSetBit", desc := "()I", sig := { parameters := [], returnType := some .int }, accessFlags := 18, code := some k7c5 }
def k7c6 : Code := { maxStack := 3, maxLocals := 4, code := jdk_2101_method_21_code, exceptionTable := #[], attributes := #[] }
def k7m6 : Method := { name := "normalize", desc := "()V", sig := { parameters := [], returnType := none }, accessFlags := 16, code := some k7c6 }
def k7c7 : Code := { maxStack := 3, maxLocals := 5, code := jdk_2101_method_35_code, exceptionTable := #[], attributes := #[] }
def k7m7 : Method := { name := "rightShift", desc := "(I)V", sig := { parameters := [.int], returnType := none }, accessFlags := 0, code := some k7c7 }
def k7c8 : Code := { maxStack := 5, maxLocals := 7, code := jdk_2101_method_41_code, exceptionTable := #[], attributes := #[] }
def k7m8 : Method := { name := "primitiveRightShift", desc := "(I)V", sig := { parameters := [.int], returnType := none }, accessFlags := 18, code := some k7c8 }
def k7c9 : Code := { maxStack := 5, maxLocals := 8, code := jdk_2101_method_42_code, exceptionTable := #[], attributes := #[] }
def k7m9 : Method := { name := "primitiveLeftShift", desc := "(I)V", sig := { parameters := [.int], returnType := none }, accessFlags := 18, code := some k7c9 }
def k7c10 : Code := { maxStack := 6, maxLocals := 8, code := jdk_2101_method_50_code, exceptionTable := #[], attributes := #[] }
def k7m10 : Method := { name := "difference", desc := "(Ljava/math/MutableBigInteger;)I", sig := { parameters := [(.object "java/math/MutableBigInteger")], returnType := some .int }, accessFlags := 2, code := some k7c10 }
def k7c11 : Code := { maxStack := 3, maxLocals := 5, code := jdk_2101_method_72_code, exceptionTable := #[], attributes := #[] }
def k7m11 : Method := { name := "hybridGCD", desc := "(Ljava/math/MutableBigInteger;)Ljava/math/MutableBigInteger;", sig := { parameters := [(.object "java/math/MutableBigInteger")], returnType := some (.object "java/math/MutableBigInteger") }, accessFlags := 0, code := some k7c11 }
def k7c12 : Code := { maxStack := 3, maxLocals := 13, code := jdk_2101_method_73_code, exceptionTable := #[], attributes := #[] }
def k7m12 : Method := { name := "binaryGCD", desc := "(Ljava/math/MutableBigInteger;)Ljava/math/MutableBigInteger;", sig := { parameters := [(.object "java/math/MutableBigInteger")], returnType := some (.object "java/math/MutableBigInteger") }, accessFlags := 2, code := some k7c12 }
def k7c13 : Code := { maxStack := 3, maxLocals := 5, code := jdk_2101_method_74_code, exceptionTable := #[], attributes := #[] }
def k7m13 : Method := { name := "binaryGcd", desc := "(II)I", sig := { parameters := [.int, .int], returnType := some .int }, accessFlags := 8, code := some k7c13 }
/-- java/math/MutableBigInteger -/
def k7 : Class := { plain "java/math/MutableBigInteger" (some 0) with
  accessFlags := 32
  interfaces := #[]
  cf := some (fileOf pool7 12 #[] #[{ accessFlags := 0, nameIndex := 9, descriptorIndex := 10, attributes := #[] }, { accessFlags := 0, nameIndex := 9, descriptorIndex := 245, attributes := #[] }, { accessFlags := 2, nameIndex := 60, descriptorIndex := 61, attributes := #[] }, { accessFlags := 0, nameIndex := 73, descriptorIndex := 74, attributes := #[] }, { accessFlags := 16, nameIndex := 144, descriptorIndex := 145, attributes := #[] }, { accessFlags := 18, nameIndex := 186, descriptorIndex := 187, attributes := #[] }, { accessFlags := 16, nameIndex := 66, descriptorIndex := 10, attributes := #[] }, { accessFlags := 0, nameIndex := 110, descriptorIndex := 111, attributes := #[] }, { accessFlags := 18, nameIndex := 120, descriptorIndex := 111, attributes := #[] }, { accessFlags := 18, nameIndex := 117, descriptorIndex := 111, attributes := #[] }, { accessFlags := 2, nameIndex := 343, descriptorIndex := 145, attributes := #[] }, { accessFlags := 0, nameIndex := 552, descriptorIndex := 335, attributes := #[] }, { accessFlags := 2, nameIndex := 334, descriptorIndex := 335, attributes := #[] }, { accessFlags := 8, nameIndex := 340, descriptorIndex := 135, attributes := #[] }] 32 6 #[] #[{ accessFlags := 0, nameIndex := 19, descriptorIndex := 20, attributes := #[] }, { accessFlags := 0, nameIndex := 23, descriptorIndex := 16, attributes := #[] }, { accessFlags := 0, nameIndex := 15, descriptorIndex := 16, attributes := #[] }, { accessFlags := 24, nameIndex := 257, descriptorIndex := 258, attributes := #[] }, { accessFlags := 24, nameIndex := 411, descriptorIndex := 16, attributes := #[] }, { accessFlags := 24, nameIndex := 414, descriptorIndex := 16, attributes := #[] }, { accessFlags := 4120, nameIndex := 43, descriptorIndex := 44, attributes := #[] }])
  fields := #[{ name := "value", type := (.array .int), accessFlags := 0, slot := 0, constantValue := 0 }, { name := "intLen", type := .int, accessFlags := 0, slot := 1, constantValue := 0 }, { name := "offset", type := .int, accessFlags := 0, slot := 2, constantValue := 0 }, { name := "ONE", type := (.object "java/math/MutableBigInteger"), accessFlags := 24, slot := 0, constantValue := 0 }, { name := "KNUTH_POW2_THRESH_LEN", type := .int, accessFlags := 24, slot := 1, constantValue := 0 }, { name := "KNUTH_POW2_THRESH_ZEROS", type := .int, accessFlags := 24, slot := 2, constantValue := 0 }, { name := "$assertionsDisabled", type := .boolean, accessFlags := 4120, slot := 3, constantValue := 0 }]
  methods := #[k7m0, k7m1, k7m2, k7m3, k7m4, k7m5, k7m6, k7m7, k7m8, k7m9, k7m10, k7m11, k7m12, k7m13]
  instanceTypes := #[(.array .int), .int, .int]
  staticTypes := #[(.object "java/math/MutableBigInteger"), .int, .int, .boolean]
  resolved := Array.replicate 590 none
  statics := none }

def pool8 : Array CpInfo := pool [(2, .class_ 4), (1, u "java/lang/Object"), (0, u "<init>"), (0, u "()V"), (7, .class_ 16), (1, u "java/util/Arrays"), (57, .class_ 76), (1, u "java/util/Arrays$NaturalOrder"), (32, u "()Ljava/lang/Object;"), (3, .class_ 115), (1, u "java/util/Arrays$LegacyMergeSort"), (1, u "Z"), (10, .nameAndType 129 109), (0, u "clone"), (172, u "copyOf"), (13, .methodref 317 128), (0, .class_ 318), (0, u "[I"), (56, .class_ 376), (0, u "java/util/Arrays$ArrayList"), (68, u "$assertionsDisabled"), (269, u "MIN_ARRAY_SORT_GRAN"), (0, u "I"), (2, u "INSERTIONSORT_THRESHOLD"), (151, u "([II)[I"), (103, .class_ 976), (0, u "java/util/Arrays$ArrayItr")] 52

def k8m0 : Method := { name := "<init>", desc := "()V", sig := { parameters := [], returnType := none }, accessFlags := 2, code := none }
def k8c1 : Code := { maxStack := 6, maxLocals := 3, code := jdk_65_method_123_code, exceptionTable := #[], attributes := #[] }
def k8m1 : Method := { name := "copyOf", desc := "([II)[I", sig := { parameters := [(.array .int), .int], returnType := some (.array .int) }, accessFlags := 9, code := some k8c1 }
/-- java/util/Arrays -/
def k8 : Class := { plain "java/util/Arrays" (some 0) with
  accessFlags := 49
  interfaces := #[]
  cf := some (fileOf pool8 14 #[.nestMembers #[975, 375, 113, 74]] #[{ accessFlags := 2, nameIndex := 5, descriptorIndex := 6, attributes := #[] }, { accessFlags := 9, nameIndex := 302, descriptorIndex := 871, attributes := #[] }] 49 2 #[] #[{ accessFlags := 26, nameIndex := 715, descriptorIndex := 716, attributes := #[] }, { accessFlags := 26, nameIndex := 719, descriptorIndex := 716, attributes := #[] }, { accessFlags := 4120, nameIndex := 445, descriptorIndex := 117, attributes := #[] }])
  fields := #[{ name := "MIN_ARRAY_SORT_GRAN", type := .int, accessFlags := 26, slot := 0, constantValue := 0 }, { name := "INSERTIONSORT_THRESHOLD", type := .int, accessFlags := 26, slot := 1, constantValue := 0 }, { name := "$assertionsDisabled", type := .boolean, accessFlags := 4120, slot := 2, constantValue := 0 }]
  methods := #[k8m0, k8m1]
  instanceTypes := #[]
  staticTypes := #[.int, .int, .boolean]
  resolved := Array.replicate 1029 none
  statics := none }

def pool9 : Array CpInfo := pool [(1, .class_ 2), (0, u "java/lang/Cloneable"), (0, .class_ 4), (0, u "java/lang/Object")] 2

/-- java/lang/Cloneable -/
def k9 : Class := { plain "java/lang/Cloneable" (some 0) with
  accessFlags := 1537
  interfaces := #[]
  cf := some (fileOf pool9 1 #[] #[] 1537 3 #[] #[])
  fields := #[]
  methods := #[]
  instanceTypes := #[]
  staticTypes := #[]
  resolved := Array.replicate 7 none
  statics := none }

def pool10 : Array CpInfo := pool [(1, .class_ 2), (0, u "java/lang/Math"), (1, .class_ 6), (1, u "java/lang/Object"), (0, u "<init>"), (0, u "()V"), (89, .class_ 100), (1, u "java/lang/Math$RandomNumberGeneratorHolder"), (23, u "abs"), (34, u "(I)I"), (12, u "negativeZeroFloatBits"), (0, u "J"), (2, u "negativeZeroDoubleBits"), (68, u "$assertionsDisabled"), (0, u "Z"), (91, u "twoToTheDoubleScaleDown"), (0, u "D"), (4, u "twoToTheDoubleScaleUp"), (9, u "E"), (3, u "PI"), (2, u "TAU"), (2, u "DEGREES_TO_RADIANS"), (0, u "RADIANS_TO_DEGREES")] 94

def k10m0 : Method := { name := "<init>", desc := "()V", sig := { parameters := [], returnType := none }, accessFlags := 2, code := none }
def k10c1 : Code := { maxStack := 1, maxLocals := 1, code := jdk_29_method_59_code, exceptionTable := #[], attributes := #[] }
def k10m1 : Method := { name := "abs", desc := "(I)I", sig := { parameters := [.int], returnType := some .int }, accessFlags := 9, code := some k10c1 }
/-- java/lang/Math -/
def k10 : Class := { plain "java/lang/Math" (some 0) with
  accessFlags := 49
  interfaces := #[]
  cf := some (fileOf pool10 1 #[.nestMembers #[98]] #[{ accessFlags := 2, nameIndex := 7, descriptorIndex := 8, attributes := #[] }, { accessFlags := 9, nameIndex := 124, descriptorIndex := 159, attributes := #[] }] 49 4 #[] #[{ accessFlags := 25, nameIndex := 354, descriptorIndex := 339, attributes := #[] }, { accessFlags := 25, nameIndex := 358, descriptorIndex := 339, attributes := #[] }, { accessFlags := 25, nameIndex := 361, descriptorIndex := 339, attributes := #[] }, { accessFlags := 26, nameIndex := 364, descriptorIndex := 339, attributes := #[] }, { accessFlags := 26, nameIndex := 365, descriptorIndex := 339, attributes := #[] }, { accessFlags := 26, nameIndex := 172, descriptorIndex := 173, attributes := #[] }, { accessFlags := 26, nameIndex := 176, descriptorIndex := 173, attributes := #[] }, { accessFlags := 8, nameIndex := 344, descriptorIndex := 339, attributes := #[] }, { accessFlags := 8, nameIndex := 338, descriptorIndex := 339, attributes := #[] }, { accessFlags := 4120, nameIndex := 245, descriptorIndex := 246, attributes := #[] }])
  fields := #[{ name := "E", type := .double, accessFlags := 25, slot := 0, constantValue := 0 }, { name := "PI", type := .double, accessFlags := 25, slot := 1, constantValue := 0 }, { name := "TAU", type := .double, accessFlags := 25, slot := 2, constantValue := 0 }, { name := "DEGREES_TO_RADIANS", type := .double, accessFlags := 26, slot := 3, constantValue := 0 }, { name := "RADIANS_TO_DEGREES", type := .double, accessFlags := 26, slot := 4, constantValue := 0 }, { name := "negativeZeroFloatBits", type := .long, accessFlags := 26, slot := 5, constantValue := 0 }, { name := "negativeZeroDoubleBits", type := .long, accessFlags := 26, slot := 6, constantValue := 0 }, { name := "twoToTheDoubleScaleUp", type := .double, accessFlags := 8, slot := 7, constantValue := 0 }, { name := "twoToTheDoubleScaleDown", type := .double, accessFlags := 8, slot := 8, constantValue := 0 }, { name := "$assertionsDisabled", type := .boolean, accessFlags := 4120, slot := 9, constantValue := 0 }]
  methods := #[k10m0, k10m1]
  instanceTypes := #[]
  staticTypes := #[.double, .double, .double, .double, .double, .long, .long, .double, .double, .boolean]
  resolved := Array.replicate 460 none
  statics := none }

def pool11 : Array CpInfo := pool [(1, .class_ 2), (0, u "java/lang/constant/Constable"), (0, .class_ 4), (0, u "java/lang/Object")] 6

/-- java/lang/constant/Constable -/
def k11 : Class := { plain "java/lang/constant/Constable" (some 0) with
  accessFlags := 1537
  interfaces := #[]
  cf := some (fileOf pool11 1 #[] #[] 1537 3 #[] #[])
  fields := #[]
  methods := #[]
  instanceTypes := #[]
  staticTypes := #[]
  resolved := Array.replicate 11 none
  statics := none }

def pool12 : Array CpInfo := pool [(1, .class_ 2), (0, u "java/lang/constant/ConstantDesc"), (0, .class_ 4), (0, u "java/lang/Object")] 32

/-- java/lang/constant/ConstantDesc -/
def k12 : Class := { plain "java/lang/constant/ConstantDesc" (some 0) with
  accessFlags := 1537
  interfaces := #[]
  cf := some (fileOf pool12 1 #[] #[] 1537 3 #[] #[])
  fields := #[]
  methods := #[]
  instanceTypes := #[]
  staticTypes := #[]
  resolved := Array.replicate 37 none
  statics := none }

def pool13 : Array CpInfo := pool [(1, .class_ 2), (0, u "java/lang/Integer"), (16, u "digits"), (0, u "[C"), (32, u "numberOfLeadingZeros"), (0, u "(I)I"), (30, u "DigitOnes"), (0, u "[B"), (2, u "DigitTens"), (99, .class_ 190), (0, u "java/lang/Integer$IntegerCache"), (3, u "I"), (8, .class_ 204), (0, u "java/lang/Number"), (2, u "value"), (56, .integer 65536), (0, .integer 1431655765), (0, .integer 858993459), (0, .integer 252645135), (34, u "TYPE"), (0, u "Ljava/lang/Class;"), (0, .class_ 305), (0, u "java/lang/Comparable"), (0, .class_ 307), (0, u "java/lang/constant/Constable"), (0, .class_ 309), (0, u "java/lang/constant/ConstantDesc"), (0, u "MIN_VALUE"), (1, u "MAX_VALUE"), (3, u "SIZE"), (1, u "BYTES"), (1, u "serialVersionUID"), (0, u "J"), (84, u "numberOfTrailingZeros"), (0, u "bitCount")] 45

def k13c0 : Code := { maxStack := 3, maxLocals := 2, code := jdk_33_method_47_code, exceptionTable := #[], attributes := #[] }
def k13m0 : Method := { name := "numberOfLeadingZeros", desc := "(I)I", sig := { parameters := [.int], returnType := some .int }, accessFlags := 9, code := some k13c0 }
def k13c1 : Code := { maxStack := 3, maxLocals := 2, code := jdk_33_method_48_code, exceptionTable := #[], attributes := #[] }
def k13m1 : Method := { name := "numberOfTrailingZeros", desc := "(I)I", sig := { parameters := [.int], returnType := some .int }, accessFlags := 9, code := some k13c1 }
def k13c2 : Code := { maxStack := 3, maxLocals := 1, code := jdk_33_method_49_code, exceptionTable := #[], attributes := #[] }
def k13m2 : Method := { name := "bitCount", desc := "(I)I", sig := { parameters := [.int], returnType := some .int }, accessFlags := 9, code := some k13c2 }
/-- java/lang/Integer -/
def k13 : Class := { plain "java/lang/Integer" (some 5) with
  accessFlags := 49
  interfaces := #[2, 11, 12]
  cf := some (fileOf pool13 1 #[.nestMembers #[189]] #[{ accessFlags := 9, nameIndex := 53, descriptorIndex := 54, attributes := #[] }, { accessFlags := 9, nameIndex := 406, descriptorIndex := 54, attributes := #[] }, { accessFlags := 9, nameIndex := 407, descriptorIndex := 54, attributes := #[] }] 49 203 #[304, 306, 308] #[{ accessFlags := 25, nameIndex := 310, descriptorIndex := 194, attributes := #[] }, { accessFlags := 25, nameIndex := 312, descriptorIndex := 194, attributes := #[] }, { accessFlags := 25, nameIndex := 302, descriptorIndex := 303, attributes := #[] }, { accessFlags := 24, nameIndex := 19, descriptorIndex := 20, attributes := #[] }, { accessFlags := 24, nameIndex := 89, descriptorIndex := 86, attributes := #[] }, { accessFlags := 24, nameIndex := 85, descriptorIndex := 86, attributes := #[] }, { accessFlags := 18, nameIndex := 207, descriptorIndex := 194, attributes := #[] }, { accessFlags := 25, nameIndex := 316, descriptorIndex := 194, attributes := #[] }, { accessFlags := 25, nameIndex := 318, descriptorIndex := 194, attributes := #[] }, { accessFlags := 26, nameIndex := 320, descriptorIndex := 321, attributes := #[] }])
  fields := #[{ name := "MIN_VALUE", type := .int, accessFlags := 25, slot := 0, constantValue := 0 }, { name := "MAX_VALUE", type := .int, accessFlags := 25, slot := 1, constantValue := 0 }, { name := "TYPE", type := (.object "java/lang/Class"), accessFlags := 25, slot := 2, constantValue := 0 }, { name := "digits", type := (.array .char), accessFlags := 24, slot := 3, constantValue := 0 }, { name := "DigitTens", type := (.array .byte), accessFlags := 24, slot := 4, constantValue := 0 }, { name := "DigitOnes", type := (.array .byte), accessFlags := 24, slot := 5, constantValue := 0 }, { name := "value", type := .int, accessFlags := 18, slot := 0, constantValue := 0 }, { name := "SIZE", type := .int, accessFlags := 25, slot := 6, constantValue := 0 }, { name := "BYTES", type := .int, accessFlags := 25, slot := 7, constantValue := 0 }, { name := "serialVersionUID", type := .long, accessFlags := 26, slot := 8, constantValue := 0 }]
  methods := #[k13m0, k13m1, k13m2]
  instanceTypes := #[.int]
  staticTypes := #[.int, .int, (.object "java/lang/Class"), (.array .char), (.array .byte), (.array .byte), .int, .int, .long]
  resolved := Array.replicate 453 none
  statics := none }

def pool14 : Array CpInfo := pool [(2, .class_ 4), (1, u "java/lang/Object"), (0, u "<init>"), (0, u "()V"), (1, .class_ 10), (1, u "java/lang/System"), (0, u "allowSecurityManager"), (0, u "I"), (16, u "cons"), (0, u "Ljava/io/Console;"), (77, .class_ 110), (1, u "java/lang/System$CallersHolder"), (43, u "initialErrStream"), (0, u "Ljava/io/PrintStream;"), (19, u "security"), (0, u "Ljava/lang/SecurityManager;"), (31, .class_ 209), (0, u "java/lang/System$1"), (7, u "props"), (0, u "Ljava/util/Properties;"), (2, u "lineSeparator"), (0, u "Ljava/lang/String;"), (96, .class_ 321), (1, u "java/lang/System$LoggerFinder"), (5, .class_ 328), (0, u "java/lang/System$Logger"), (67, u "err"), (2, u "out"), (91, u "notSupportedJnuEncoding"), (15, u "in"), (17, u "initialIn"), (0, u "Ljava/io/InputStream;"), (35, u "bootLayer"), (0, u "Ljava/lang/ModuleLayer;"), (99, .class_ 664), (0, u "java/lang/System$2"), (9, u "NEVER"), (2, u "MAYBE"), (49, u "arraycopy"), (0, u "(Ljava/lang/Object;ILjava/lang/Object;II)V"), (72, .class_ 802), (0, u "java/lang/System$Logger$Level")] 31

def k14m0 : Method := { name := "<init>", desc := "()V", sig := { parameters := [], returnType := none }, accessFlags := 2, code := none }
def k14m1 : Method := { name := "arraycopy", desc := "(Ljava/lang/Object;ILjava/lang/Object;II)V", sig := { parameters := [(.object "java/lang/Object"), .int, (.object "java/lang/Object"), .int, .int], returnType := none }, accessFlags := 265, code := none }
/-- java/lang/System -/
def k14 : Class := { plain "java/lang/System" (some 0) with
  accessFlags := 49
  interfaces := #[]
  cf := some (fileOf pool14 8 #[.nestMembers #[319, 327, 801, 108, 663, 208]] #[{ accessFlags := 2, nameIndex := 5, descriptorIndex := 6, attributes := #[] }, { accessFlags := 265, nameIndex := 727, descriptorIndex := 728, attributes := #[] }] 49 2 #[] #[{ accessFlags := 25, nameIndex := 507, descriptorIndex := 526, attributes := #[] }, { accessFlags := 25, nameIndex := 399, descriptorIndex := 155, attributes := #[] }, { accessFlags := 25, nameIndex := 396, descriptorIndex := 155, attributes := #[] }, { accessFlags := 10, nameIndex := 525, descriptorIndex := 526, attributes := #[] }, { accessFlags := 26, nameIndex := 674, descriptorIndex := 12, attributes := #[] }, { accessFlags := 26, nameIndex := 677, descriptorIndex := 12, attributes := #[] }, { accessFlags := 10, nameIndex := 11, descriptorIndex := 12, attributes := #[] }, { accessFlags := 74, nameIndex := 175, descriptorIndex := 176, attributes := #[] }, { accessFlags := 10, nameIndex := 491, descriptorIndex := 222, attributes := #[] }, { accessFlags := 74, nameIndex := 29, descriptorIndex := 30, attributes := #[] }, { accessFlags := 74, nameIndex := 154, descriptorIndex := 155, attributes := #[] }, { accessFlags := 10, nameIndex := 217, descriptorIndex := 218, attributes := #[] }, { accessFlags := 10, nameIndex := 221, descriptorIndex := 222, attributes := #[] }, { accessFlags := 8, nameIndex := 562, descriptorIndex := 563, attributes := #[] }])
  fields := #[{ name := "in", type := (.object "java/io/InputStream"), accessFlags := 25, slot := 0, constantValue := 0 }, { name := "out", type := (.object "java/io/PrintStream"), accessFlags := 25, slot := 1, constantValue := 0 }, { name := "err", type := (.object "java/io/PrintStream"), accessFlags := 25, slot := 2, constantValue := 0 }, { name := "initialIn", type := (.object "java/io/InputStream"), accessFlags := 10, slot := 3, constantValue := 0 }, { name := "NEVER", type := .int, accessFlags := 26, slot := 4, constantValue := 0 }, { name := "MAYBE", type := .int, accessFlags := 26, slot := 5, constantValue := 0 }, { name := "allowSecurityManager", type := .int, accessFlags := 10, slot := 6, constantValue := 0 }, { name := "security", type := (.object "java/lang/SecurityManager"), accessFlags := 74, slot := 7, constantValue := 0 }, { name := "notSupportedJnuEncoding", type := (.object "java/lang/String"), accessFlags := 10, slot := 8, constantValue := 0 }, { name := "cons", type := (.object "java/io/Console"), accessFlags := 74, slot := 9, constantValue := 0 }, { name := "initialErrStream", type := (.object "java/io/PrintStream"), accessFlags := 74, slot := 10, constantValue := 0 }, { name := "props", type := (.object "java/util/Properties"), accessFlags := 10, slot := 11, constantValue := 0 }, { name := "lineSeparator", type := (.object "java/lang/String"), accessFlags := 10, slot := 12, constantValue := 0 }, { name := "bootLayer", type := (.object "java/lang/ModuleLayer"), accessFlags := 8, slot := 13, constantValue := 0 }]
  methods := #[k14m0, k14m1]
  instanceTypes := #[]
  staticTypes := #[(.object "java/io/InputStream"), (.object "java/io/PrintStream"), (.object "java/io/PrintStream"), (.object "java/io/InputStream"), .int, .int, .int, (.object "java/lang/SecurityManager"), (.object "java/lang/String"), (.object "java/io/Console"), (.object "java/io/PrintStream"), (.object "java/util/Properties"), (.object "java/lang/String"), (.object "java/lang/ModuleLayer")]
  resolved := Array.replicate 834 none
  statics := none }

/-- the primitive byte -/
def k15 : Class := { plain "byte" none with kind := .primitive 'B', accessFlags := 0x411 }
/-- [B -/
def k16 : Class := { plain "[B" (some 0) with kind := .array 15 .byte, interfaces := #[9, 4], accessFlags := 1041 }

/-- the primitive int -/
def k17 : Class := { plain "int" none with kind := .primitive 'I', accessFlags := 0x411 }
/-- [I -/
def k18 : Class := { plain "[I" (some 0) with kind := .array 17 .int, interfaces := #[9, 4], accessFlags := 1041 }

/-- [Ljava/math/BigInteger; -/
def k19 : Class := { plain "[Ljava/math/BigInteger;" (some 0) with kind := .array 6 (.object "java/math/BigInteger"), interfaces := #[9, 4], accessFlags := 1041 }

def heap : Heap := #[{ cls := 6, slots := #[.long 0, .int 0, .int 0, .int 0, .int 0, .int 0, .int 0, .int 0, .int 0, .int 0, .int 0, .int 0, .null, .int 0, .int 0, .null, .int 0, .ref 1, .ref 2, .null, .null, .double 0, .ref 51, .ref 3, .ref 5, .ref 35, .ref 21, .null, .int 0, .null, .null, .null, .null, .null, .long 0, .null, .int 0], vm := .statics 6 },
  { cls := 19, slots := #[.null, .ref 3, .ref 5, .ref 7, .ref 9, .ref 11, .ref 13, .ref 15, .ref 17, .ref 19, .ref 21, .ref 23, .ref 25, .ref 27, .ref 29, .ref 31, .ref 33], vm := .none },
  { cls := 19, slots := #[.null, .ref 35, .ref 36, .ref 37, .ref 38, .ref 39, .ref 40, .ref 41, .ref 42, .ref 43, .ref 44, .ref 45, .ref 46, .ref 47, .ref 48, .ref 49, .ref 50], vm := .none },
  { cls := 6, slots := #[.int 1, .ref 4, .int 0, .int 0, .int 0, .int 0], vm := .none },
  { cls := 18, slots := #[.int 1], vm := .none },
  { cls := 6, slots := #[.int 1, .ref 6, .int 0, .int 0, .int 0, .int 0], vm := .none },
  { cls := 18, slots := #[.int 2], vm := .none },
  { cls := 6, slots := #[.int 1, .ref 8, .int 0, .int 0, .int 0, .int 0], vm := .none },
  { cls := 18, slots := #[.int 3], vm := .none },
  { cls := 6, slots := #[.int 1, .ref 10, .int 0, .int 0, .int 0, .int 0], vm := .none },
  { cls := 18, slots := #[.int 4], vm := .none },
  { cls := 6, slots := #[.int 1, .ref 12, .int 0, .int 0, .int 0, .int 0], vm := .none },
  { cls := 18, slots := #[.int 5], vm := .none },
  { cls := 6, slots := #[.int 1, .ref 14, .int 0, .int 0, .int 0, .int 0], vm := .none },
  { cls := 18, slots := #[.int 6], vm := .none },
  { cls := 6, slots := #[.int 1, .ref 16, .int 0, .int 0, .int 0, .int 0], vm := .none },
  { cls := 18, slots := #[.int 7], vm := .none },
  { cls := 6, slots := #[.int 1, .ref 18, .int 0, .int 0, .int 0, .int 0], vm := .none },
  { cls := 18, slots := #[.int 8], vm := .none },
  { cls := 6, slots := #[.int 1, .ref 20, .int 0, .int 0, .int 0, .int 0], vm := .none },
  { cls := 18, slots := #[.int 9], vm := .none },
  { cls := 6, slots := #[.int 1, .ref 22, .int 0, .int 0, .int 0, .int 0], vm := .none },
  { cls := 18, slots := #[.int 10], vm := .none },
  { cls := 6, slots := #[.int 1, .ref 24, .int 0, .int 0, .int 0, .int 0], vm := .none },
  { cls := 18, slots := #[.int 11], vm := .none },
  { cls := 6, slots := #[.int 1, .ref 26, .int 0, .int 0, .int 0, .int 0], vm := .none },
  { cls := 18, slots := #[.int 12], vm := .none },
  { cls := 6, slots := #[.int 1, .ref 28, .int 0, .int 0, .int 0, .int 0], vm := .none },
  { cls := 18, slots := #[.int 13], vm := .none },
  { cls := 6, slots := #[.int 1, .ref 30, .int 0, .int 0, .int 0, .int 0], vm := .none },
  { cls := 18, slots := #[.int 14], vm := .none },
  { cls := 6, slots := #[.int 1, .ref 32, .int 0, .int 0, .int 0, .int 0], vm := .none },
  { cls := 18, slots := #[.int 15], vm := .none },
  { cls := 6, slots := #[.int 1, .ref 34, .int 0, .int 0, .int 0, .int 0], vm := .none },
  { cls := 18, slots := #[.int 16], vm := .none },
  { cls := 6, slots := #[.int (-1), .ref 4, .int 0, .int 0, .int 0, .int 0], vm := .none },
  { cls := 6, slots := #[.int (-1), .ref 6, .int 0, .int 0, .int 0, .int 0], vm := .none },
  { cls := 6, slots := #[.int (-1), .ref 8, .int 0, .int 0, .int 0, .int 0], vm := .none },
  { cls := 6, slots := #[.int (-1), .ref 10, .int 0, .int 0, .int 0, .int 0], vm := .none },
  { cls := 6, slots := #[.int (-1), .ref 12, .int 0, .int 0, .int 0, .int 0], vm := .none },
  { cls := 6, slots := #[.int (-1), .ref 14, .int 0, .int 0, .int 0, .int 0], vm := .none },
  { cls := 6, slots := #[.int (-1), .ref 16, .int 0, .int 0, .int 0, .int 0], vm := .none },
  { cls := 6, slots := #[.int (-1), .ref 18, .int 0, .int 0, .int 0, .int 0], vm := .none },
  { cls := 6, slots := #[.int (-1), .ref 20, .int 0, .int 0, .int 0, .int 0], vm := .none },
  { cls := 6, slots := #[.int (-1), .ref 22, .int 0, .int 0, .int 0, .int 0], vm := .none },
  { cls := 6, slots := #[.int (-1), .ref 24, .int 0, .int 0, .int 0, .int 0], vm := .none },
  { cls := 6, slots := #[.int (-1), .ref 26, .int 0, .int 0, .int 0, .int 0], vm := .none },
  { cls := 6, slots := #[.int (-1), .ref 28, .int 0, .int 0, .int 0, .int 0], vm := .none },
  { cls := 6, slots := #[.int (-1), .ref 30, .int 0, .int 0, .int 0, .int 0], vm := .none },
  { cls := 6, slots := #[.int (-1), .ref 32, .int 0, .int 0, .int 0, .int 0], vm := .none },
  { cls := 6, slots := #[.int (-1), .ref 34, .int 0, .int 0, .int 0, .int 0], vm := .none },
  { cls := 6, slots := #[.int 0, .ref 52, .int 0, .int 0, .int 0, .int 0], vm := .none },
  { cls := 18, slots := #[], vm := .none }]
def classes : Array Class := #[k0, k1, k2, k3, k4, k5, k6, k7, k8, k9, k10, k11, k12, k13, k14, k15, k16, k17, k18, k19]
def interned : List (Array UInt16 × Addr) := []
def slotsUsed : Nat := 285
def theMethod : MethodId := ⟨1, 1⟩
def args0 : Array Value := #[.long 5, .long 7]
def aboutOver (below : List Frame) : State where
  vm := { classes := classes, interned := interned.toArray }
  heap := heap
  slotsUsed := slotsUsed
  threads := #[{ frames := .invoking theMethod args0 :: below }]
def below0 : List Frame := [.native { method := ⟨0, 0⟩, args := #[] }]
def about1 : State := aboutOver below0
def p0 : Program := .bare "" "" ""
def e0 : Env := launch0.env 0 0 0
theorem w_frames : about1.frames = Frame.invoking theMethod args0 :: below0 := rfl
set_option maxRecDepth 65536 in
theorem w_args : argsFit about1.vm theMethod args0 = true := by decide +kernel
set_option maxRecDepth 65536 in
theorem w_heap : heapFits about1 = true := by decide +kernel
set_option maxRecDepth 65536 in
theorem w_runnable : about1.curStatus? = some .runnable := by decide +kernel
set_option maxRecDepth 65536 in
theorem w_alone : about1.alone = true := by decide +kernel
set_option maxRecDepth 65536 in
theorem w_named : about1.methodNamed? x = some theMethod := by decide +kernel
set_option maxRecDepth 65536 in
theorem w_hears : about1.hears theMethod below0 = true := by decide +kernel
set_option maxRecDepth 65536 in
theorem w_ripe : about1.ripe theMethod args0 below0 = true := by decide +kernel
theorem w_running : about1.status = .running := rfl
set_option maxRecDepth 65536 in
theorem w_room : about1.hasRoom e0.platform room_1 = true :=
  launch0.hasRoom_least _ room_1 (by decide +kernel) (by decide +kernel) (by decide +kernel) (by decide +kernel) (by decide +kernel) (by decide +kernel)
theorem allAtoms_all (ts : List Jvm.Cond) (a : Array Jvm.Value) (st : Jvm.State) : (allAtoms ts).before a st = ts.all (fun c => c.before a st) := by
  induction ts with
  | nil => rfl
  | cons c t ih =>
    show (Jvm.Cond.and c (allAtoms t)).before a st = _
    rw [Jvm.Cond.before_and, ih, List.all_cons]
def words1 : List Jvm.Cond := Jvm.Cond.code x code maxLocals ret :: tables_1
/-- a 'code' word, met by the world's own term for the bytes: nothing is compared byte by byte -/
theorem code_word {y : MethodName} {bytes : ByteArray} {mx : Nat} {rt : Option FieldType} {a : Array Value} {s : State} {m : MethodId} {meth : Method} {c : Code} (h1 : s.methodNamed? y = some m) (h2 : s.vm.method? m = some meth) (h3 : meth.code = some c) (h4 : c.code = bytes)
    (h5 : (c.maxLocals == mx && c.exceptionTable.isEmpty && decide (c.maxStack ≤ mostOperands) && decide (meth.sig.returnType = rt) && !meth.locks && decide (parseMethodDescriptor y.desc = some meth.sig)) = true) : (Jvm.Cond.code y bytes mx rt).before a s = true := by
  simp only [Bool.and_eq_true, beq_iff_eq, Bool.not_eq_true', decide_eq_true_eq] at h5
  obtain ⟨⟨⟨⟨⟨g1, g2⟩, g3⟩, g4⟩, g5⟩, g6⟩ := h5
  simp [Cond.before, Cond.holds, Cond.value, h1, h2, h3, h4, g1, g2, g3, g4, g5, g6]
def isCode : Jvm.Cond → Bool
  | .code _ _ _ _ => true
  | _ => false
theorem all_split {L : List Jvm.Cond} {P : Jvm.Cond → Bool} (h1 : L.all (fun c => isCode c || P c) = true) (h2 : ∀ c ∈ L.filter isCode, P c = true) : L.all P = true := by
  refine List.all_eq_true.mpr fun c hc => ?_
  have h := List.all_eq_true.mp h1 c hc
  rcases Bool.eq_false_or_eq_true (isCode c) with hi | hi
  · exact h2 c (List.mem_filter.mpr ⟨hc, hi⟩)
  · simpa [hi] using h
set_option maxRecDepth 65536 in
theorem w_c0 : (Jvm.Cond.code x code maxLocals ret).before args0 about1 = true := code_word (m := ⟨1, 1⟩) (meth := k1m1) (c := k1c1) (by decide +kernel) rfl rfl rfl (by decide +kernel)
set_option maxRecDepth 65536 in
theorem w_c1 : (Jvm.Cond.code ({ cls := "com/example/slicewise/slicewise/Fraction", name := "of", desc := "(J)Lcom/example/slicewise/slicewise/Fraction;" } : Jvm.MethodName) prog_1_method_3_code (2 : Nat) (Option.some (Jvm.ClassFile.FieldType.object "com/example/slicewise/slicewise/Fraction"))).before args0 about1 = true := code_word (m := ⟨3, 2⟩) (meth := k3m2) (c := k3c2) (by decide +kernel) rfl rfl rfl (by decide +kernel)
set_option maxRecDepth 65536 in
theorem w_c2 : (Jvm.Cond.code ({ cls := "java/math/BigInteger", name := "valueOf", desc := "(J)Ljava/math/BigInteger;" } : Jvm.MethodName) jdk_2097_method_29_code (2 : Nat) (Option.some (Jvm.ClassFile.FieldType.object "java/math/BigInteger"))).before args0 about1 = true := code_word (m := ⟨6, 1⟩) (meth := k6m1) (c := k6c1) (by decide +kernel) rfl rfl rfl (by decide +kernel)
set_option maxRecDepth 65536 in
theorem w_c3 : (Jvm.Cond.code ({ cls := "com/example/slicewise/slicewise/Fraction", name := "<init>", desc := "(Ljava/math/BigInteger;Ljava/math/BigInteger;)V" } : Jvm.MethodName) prog_1_method_1_code (3 : Nat) (Option.none : Option Jvm.ClassFile.FieldType)).before args0 about1 = true := code_word (m := ⟨3, 0⟩) (meth := k3m0) (c := k3c0) (by decide +kernel) rfl rfl rfl (by decide +kernel)
set_option maxRecDepth 65536 in
theorem w_c4 : (Jvm.Cond.code ({ cls := "java/lang/Object", name := "<init>", desc := "()V" } : Jvm.MethodName) object_method_1_code (1 : Nat) (Option.none : Option Jvm.ClassFile.FieldType)).before args0 about1 = true := code_word (m := ⟨0, 0⟩) (meth := k0m0) (c := k0c0) (by decide +kernel) rfl rfl rfl (by decide +kernel)
set_option maxRecDepth 65536 in
theorem w_c5 : (Jvm.Cond.code ({ cls := "com/example/slicewise/slicewise/Fraction", name := "of", desc := "(JJ)Lcom/example/slicewise/slicewise/Fraction;" } : Jvm.MethodName) prog_1_method_4_code (4 : Nat) (Option.some (Jvm.ClassFile.FieldType.object "com/example/slicewise/slicewise/Fraction"))).before args0 about1 = true := code_word (m := ⟨3, 3⟩) (meth := k3m3) (c := k3c3) (by decide +kernel) rfl rfl rfl (by decide +kernel)
set_option maxRecDepth 65536 in
theorem w_c6 : (Jvm.Cond.code ({ cls := "com/example/slicewise/slicewise/Fraction", name := "of", desc := "(Ljava/math/BigInteger;Ljava/math/BigInteger;)Lcom/example/slicewise/slicewise/Fraction;" } : Jvm.MethodName) prog_1_method_2_code (3 : Nat) (Option.some (Jvm.ClassFile.FieldType.object "com/example/slicewise/slicewise/Fraction"))).before args0 about1 = true := code_word (m := ⟨3, 1⟩) (meth := k3m1) (c := k3c1) (by decide +kernel) rfl rfl rfl (by decide +kernel)
set_option maxRecDepth 65536 in
theorem w_c7 : (Jvm.Cond.code ({ cls := "java/math/BigInteger", name := "signum", desc := "()I" } : Jvm.MethodName) jdk_2097_method_81_code (1 : Nat) (Option.some Jvm.ClassFile.FieldType.int)).before args0 about1 = true := code_word (m := ⟨6, 9⟩) (meth := k6m9) (c := k6c9) (by decide +kernel) rfl rfl rfl (by decide +kernel)
set_option maxRecDepth 65536 in
theorem w_c8 : (Jvm.Cond.code ({ cls := "java/math/BigInteger", name := "gcd", desc := "(Ljava/math/BigInteger;)Ljava/math/BigInteger;" } : Jvm.MethodName) jdk_2097_method_73_code (5 : Nat) (Option.some (Jvm.ClassFile.FieldType.object "java/math/BigInteger"))).before args0 about1 = true := code_word (m := ⟨6, 6⟩) (meth := k6m6) (c := k6c6) (by decide +kernel) rfl rfl rfl (by decide +kernel)
set_option maxRecDepth 65536 in
theorem w_c9 : (Jvm.Cond.code ({ cls := "java/math/MutableBigInteger", name := "<init>", desc := "(Ljava/math/BigInteger;)V" } : Jvm.MethodName) jdk_2101_method_4_code (2 : Nat) (Option.none : Option Jvm.ClassFile.FieldType)).before args0 about1 = true := code_word (m := ⟨7, 1⟩) (meth := k7m1) (c := k7c1) (by decide +kernel) rfl rfl rfl (by decide +kernel)
set_option maxRecDepth 65536 in
theorem w_c10 : (Jvm.Cond.code ({ cls := "java/util/Arrays", name := "copyOf", desc := "([II)[I" } : Jvm.MethodName) jdk_65_method_123_code (3 : Nat) (Option.some (Jvm.ClassFile.FieldType.array Jvm.ClassFile.FieldType.int))).before args0 about1 = true := code_word (m := ⟨8, 1⟩) (meth := k8m1) (c := k8c1) (by decide +kernel) rfl rfl rfl (by decide +kernel)
set_option maxRecDepth 65536 in
theorem w_c11 : (Jvm.Cond.code ({ cls := "java/math/MutableBigInteger", name := "hybridGCD", desc := "(Ljava/math/MutableBigInteger;)Ljava/math/MutableBigInteger;" } : Jvm.MethodName) jdk_2101_method_72_code (5 : Nat) (Option.some (Jvm.ClassFile.FieldType.object "java/math/MutableBigInteger"))).before args0 about1 = true := code_word (m := ⟨7, 11⟩) (meth := k7m11) (c := k7c11) (by decide +kernel) rfl rfl rfl (by decide +kernel)
set_option maxRecDepth 65536 in
theorem w_c12 : (Jvm.Cond.code ({ cls := "java/math/MutableBigInteger", name := "<init>", desc := "()V" } : Jvm.MethodName) jdk_2101_method_1_code (1 : Nat) (Option.none : Option Jvm.ClassFile.FieldType)).before args0 about1 = true := code_word (m := ⟨7, 0⟩) (meth := k7m0) (c := k7c0) (by decide +kernel) rfl rfl rfl (by decide +kernel)
set_option maxRecDepth 65536 in
theorem w_c13 : (Jvm.Cond.code ({ cls := "java/lang/Math", name := "abs", desc := "(I)I" } : Jvm.MethodName) jdk_29_method_59_code (1 : Nat) (Option.some Jvm.ClassFile.FieldType.int)).before args0 about1 = true := code_word (m := ⟨10, 1⟩) (meth := k10m1) (c := k10c1) (by decide +kernel) rfl rfl rfl (by decide +kernel)
set_option maxRecDepth 65536 in
theorem w_c14 : (Jvm.Cond.code ({ cls := "java/math/MutableBigInteger", name := "binaryGCD", desc := "(Ljava/math/MutableBigInteger;)Ljava/math/MutableBigInteger;" } : Jvm.MethodName) jdk_2101_method_73_code (13 : Nat) (Option.some (Jvm.ClassFile.FieldType.object "java/math/MutableBigInteger"))).before args0 about1 = true := code_word (m := ⟨7, 12⟩) (meth := k7m12) (c := k7c12) (by decide +kernel) rfl rfl rfl (by decide +kernel)
set_option maxRecDepth 65536 in
theorem w_c15 : (Jvm.Cond.code ({ cls := "java/math/MutableBigInteger", name := "getLowestSetBit", desc := "()I" } : Jvm.MethodName) jdk_2101_method_18_code (3 : Nat) (Option.some Jvm.ClassFile.FieldType.int)).before args0 about1 = true := code_word (m := ⟨7, 5⟩) (meth := k7m5) (c := k7c5) (by decide +kernel) rfl rfl rfl (by decide +kernel)
set_option maxRecDepth 65536 in
theorem w_c16 : (Jvm.Cond.code ({ cls := "java/lang/Integer", name := "numberOfTrailingZeros", desc := "(I)I" } : Jvm.MethodName) jdk_33_method_48_code (2 : Nat) (Option.some Jvm.ClassFile.FieldType.int)).before args0 about1 = true := code_word (m := ⟨13, 1⟩) (meth := k13m1) (c := k13c1) (by decide +kernel) rfl rfl rfl (by decide +kernel)
set_option maxRecDepth 65536 in
theorem w_c17 : (Jvm.Cond.code ({ cls := "java/math/MutableBigInteger", name := "rightShift", desc := "(I)V" } : Jvm.MethodName) jdk_2101_method_35_code (5 : Nat) (Option.none : Option Jvm.ClassFile.FieldType)).before args0 about1 = true := code_word (m := ⟨7, 7⟩) (meth := k7m7) (c := k7c7) (by decide +kernel) rfl rfl rfl (by decide +kernel)
set_option maxRecDepth 65536 in
theorem w_c18 : (Jvm.Cond.code ({ cls := "java/math/MutableBigInteger", name := "binaryGcd", desc := "(II)I" } : Jvm.MethodName) jdk_2101_method_74_code (5 : Nat) (Option.some Jvm.ClassFile.FieldType.int)).before args0 about1 = true := code_word (m := ⟨7, 13⟩) (meth := k7m13) (c := k7c13) (by decide +kernel) rfl rfl rfl (by decide +kernel)
set_option maxRecDepth 65536 in
theorem w_c19 : (Jvm.Cond.code ({ cls := "java/math/MutableBigInteger", name := "toBigInteger", desc := "(I)Ljava/math/BigInteger;" } : Jvm.MethodName) jdk_2101_method_9_code (2 : Nat) (Option.some (Jvm.ClassFile.FieldType.object "java/math/BigInteger"))).before args0 about1 = true := code_word (m := ⟨7, 3⟩) (meth := k7m3) (c := k7c3) (by decide +kernel) rfl rfl rfl (by decide +kernel)
set_option maxRecDepth 65536 in
theorem w_c20 : (Jvm.Cond.code ({ cls := "java/math/MutableBigInteger", name := "getMagnitudeArray", desc := "()[I" } : Jvm.MethodName) jdk_2101_method_7_code (2 : Nat) (Option.some (Jvm.ClassFile.FieldType.array Jvm.ClassFile.FieldType.int))).before args0 about1 = true := code_word (m := ⟨7, 2⟩) (meth := k7m2) (c := k7c2) (by decide +kernel) rfl rfl rfl (by decide +kernel)
set_option maxRecDepth 65536 in
theorem w_c21 : (Jvm.Cond.code ({ cls := "java/math/BigInteger", name := "<init>", desc := "([II)V" } : Jvm.MethodName) jdk_2097_method_25_code (3 : Nat) (Option.none : Option Jvm.ClassFile.FieldType)).before args0 about1 = true := code_word (m := ⟨6, 0⟩) (meth := k6m0) (c := k6c0) (by decide +kernel) rfl rfl rfl (by decide +kernel)
set_option maxRecDepth 65536 in
theorem w_c22 : (Jvm.Cond.code ({ cls := "java/lang/Number", name := "<init>", desc := "()V" } : Jvm.MethodName) jdk_18_method_1_code (1 : Nat) (Option.none : Option Jvm.ClassFile.FieldType)).before args0 about1 = true := code_word (m := ⟨5, 0⟩) (meth := k5m0) (c := k5c0) (by decide +kernel) rfl rfl rfl (by decide +kernel)
set_option maxRecDepth 65536 in
theorem w_c23 : (Jvm.Cond.code ({ cls := "java/math/BigInteger", name := "equals", desc := "(Ljava/lang/Object;)Z" } : Jvm.MethodName) jdk_2097_method_124_code (7 : Nat) (Option.some Jvm.ClassFile.FieldType.boolean)).before args0 about1 = true := code_word (m := ⟨6, 13⟩) (meth := k6m13) (c := k6c13) (by decide +kernel) rfl rfl rfl (by decide +kernel)
set_option maxRecDepth 65536 in
theorem w_c24 : (Jvm.Cond.code ({ cls := "com/example/slicewise/slicewise/Fraction", name := "compareTo", desc := "(Lcom/example/slicewise/slicewise/Fraction;)I" } : Jvm.MethodName) prog_1_method_19_code (2 : Nat) (Option.some Jvm.ClassFile.FieldType.int)).before args0 about1 = true := code_word (m := ⟨3, 5⟩) (meth := k3m5) (c := k3c5) (by decide +kernel) rfl rfl rfl (by decide +kernel)
set_option maxRecDepth 65536 in
theorem w_c25 : (Jvm.Cond.code ({ cls := "java/math/BigInteger", name := "multiply", desc := "(Ljava/math/BigInteger;)Ljava/math/BigInteger;" } : Jvm.MethodName) jdk_2097_method_40_code (2 : Nat) (Option.some (Jvm.ClassFile.FieldType.object "java/math/BigInteger"))).before args0 about1 = true := code_word (m := ⟨6, 3⟩) (meth := k6m3) (c := k6c3) (by decide +kernel) rfl rfl rfl (by decide +kernel)
set_option maxRecDepth 65536 in
theorem w_c26 : (Jvm.Cond.code ({ cls := "java/math/BigInteger", name := "multiply", desc := "(Ljava/math/BigInteger;ZZI)Ljava/math/BigInteger;" } : Jvm.MethodName) jdk_2097_method_42_code (9 : Nat) (Option.some (Jvm.ClassFile.FieldType.object "java/math/BigInteger"))).before args0 about1 = true := code_word (m := ⟨6, 4⟩) (meth := k6m4) (c := k6c4) (by decide +kernel) rfl rfl rfl (by decide +kernel)
set_option maxRecDepth 65536 in
theorem w_c27 : (Jvm.Cond.code ({ cls := "java/math/BigInteger", name := "multiplyByInt", desc := "([III)Ljava/math/BigInteger;" } : Jvm.MethodName) jdk_2097_method_43_code (13 : Nat) (Option.some (Jvm.ClassFile.FieldType.object "java/math/BigInteger"))).before args0 about1 = true := code_word (m := ⟨6, 5⟩) (meth := k6m5) (c := k6c5) (by decide +kernel) rfl rfl rfl (by decide +kernel)
set_option maxRecDepth 65536 in
theorem w_c28 : (Jvm.Cond.code ({ cls := "java/lang/Integer", name := "bitCount", desc := "(I)I" } : Jvm.MethodName) jdk_33_method_49_code (1 : Nat) (Option.some Jvm.ClassFile.FieldType.int)).before args0 about1 = true := code_word (m := ⟨13, 2⟩) (meth := k13m2) (c := k13c2) (by decide +kernel) rfl rfl rfl (by decide +kernel)
set_option maxRecDepth 65536 in
theorem w_c29 : (Jvm.Cond.code ({ cls := "java/math/BigInteger", name := "shiftLeft", desc := "([II)[I" } : Jvm.MethodName) jdk_2097_method_102_code (10 : Nat) (Option.some (Jvm.ClassFile.FieldType.array Jvm.ClassFile.FieldType.int))).before args0 about1 = true := code_word (m := ⟨6, 10⟩) (meth := k6m10) (c := k6c10) (by decide +kernel) rfl rfl rfl (by decide +kernel)
set_option maxRecDepth 65536 in
theorem w_c30 : (Jvm.Cond.code ({ cls := "java/math/BigInteger", name := "compareTo", desc := "(Ljava/math/BigInteger;)I" } : Jvm.MethodName) jdk_2097_method_121_code (2 : Nat) (Option.some Jvm.ClassFile.FieldType.int)).before args0 about1 = true := code_word (m := ⟨6, 11⟩) (meth := k6m11) (c := k6c11) (by decide +kernel) rfl rfl rfl (by decide +kernel)
set_option maxRecDepth 65536 in
theorem w_c31 : (Jvm.Cond.code ({ cls := "java/math/BigInteger", name := "compareMagnitude", desc := "(Ljava/math/BigInteger;)I" } : Jvm.MethodName) jdk_2097_method_122_code (9 : Nat) (Option.some Jvm.ClassFile.FieldType.int)).before args0 about1 = true := code_word (m := ⟨6, 12⟩) (meth := k6m12) (c := k6c12) (by decide +kernel) rfl rfl rfl (by decide +kernel)
set_option maxRecDepth 65536 in
theorem w_c32 : (Jvm.Cond.code ({ cls := "com/example/slicewise/slicewise/Fraction", name := "equals", desc := "(Ljava/lang/Object;)Z" } : Jvm.MethodName) prog_1_method_20_code (2 : Nat) (Option.some Jvm.ClassFile.FieldType.boolean)).before args0 about1 = true := code_word (m := ⟨3, 6⟩) (meth := k3m6) (c := k3c6) (by decide +kernel) rfl rfl rfl (by decide +kernel)
set_option maxRecDepth 65536 in
theorem w_c33 : (Jvm.Cond.code ({ cls := "com/example/slicewise/slicewise/Fraction", name := "signum", desc := "()I" } : Jvm.MethodName) prog_1_method_11_code (1 : Nat) (Option.some Jvm.ClassFile.FieldType.int)).before args0 about1 = true := code_word (m := ⟨3, 4⟩) (meth := k3m4) (c := k3c4) (by decide +kernel) rfl rfl rfl (by decide +kernel)
set_option maxRecDepth 65536 in
theorem w_c34 : (Jvm.Cond.code ({ cls := "java/math/BigInteger", name := "<init>", desc := "(J)V" } : Jvm.MethodName) jdk_2097_method_30_code (4 : Nat) (Option.none : Option Jvm.ClassFile.FieldType)).before args0 about1 = true := code_word (m := ⟨6, 2⟩) (meth := k6m2) (c := k6c2) (by decide +kernel) rfl rfl rfl (by decide +kernel)
set_option maxRecDepth 65536 in
theorem w_c35 : (Jvm.Cond.code ({ cls := "java/math/BigInteger", name := "bitLengthForInt", desc := "(I)I" } : Jvm.MethodName) jdk_2097_method_74_code (1 : Nat) (Option.some Jvm.ClassFile.FieldType.int)).before args0 about1 = true := code_word (m := ⟨6, 7⟩) (meth := k6m7) (c := k6c7) (by decide +kernel) rfl rfl rfl (by decide +kernel)
set_option maxRecDepth 65536 in
theorem w_c36 : (Jvm.Cond.code ({ cls := "java/lang/Integer", name := "numberOfLeadingZeros", desc := "(I)I" } : Jvm.MethodName) jdk_33_method_47_code (2 : Nat) (Option.some Jvm.ClassFile.FieldType.int)).before args0 about1 = true := code_word (m := ⟨13, 0⟩) (meth := k13m0) (c := k13c0) (by decide +kernel) rfl rfl rfl (by decide +kernel)
set_option maxRecDepth 65536 in
theorem w_c37 : (Jvm.Cond.code ({ cls := "java/math/MutableBigInteger", name := "primitiveRightShift", desc := "(I)V" } : Jvm.MethodName) jdk_2101_method_41_code (7 : Nat) (Option.none : Option Jvm.ClassFile.FieldType)).before args0 about1 = true := code_word (m := ⟨7, 8⟩) (meth := k7m8) (c := k7c8) (by decide +kernel) rfl rfl rfl (by decide +kernel)
set_option maxRecDepth 65536 in
theorem w_c38 : (Jvm.Cond.code ({ cls := "java/math/MutableBigInteger", name := "difference", desc := "(Ljava/math/MutableBigInteger;)I" } : Jvm.MethodName) jdk_2101_method_50_code (8 : Nat) (Option.some Jvm.ClassFile.FieldType.int)).before args0 about1 = true := code_word (m := ⟨7, 10⟩) (meth := k7m10) (c := k7c10) (by decide +kernel) rfl rfl rfl (by decide +kernel)
set_option maxRecDepth 65536 in
theorem w_c39 : (Jvm.Cond.code ({ cls := "java/math/MutableBigInteger", name := "compare", desc := "(Ljava/math/MutableBigInteger;)I" } : Jvm.MethodName) jdk_2101_method_15_code (8 : Nat) (Option.some Jvm.ClassFile.FieldType.int)).before args0 about1 = true := code_word (m := ⟨7, 4⟩) (meth := k7m4) (c := k7c4) (by decide +kernel) rfl rfl rfl (by decide +kernel)
set_option maxRecDepth 65536 in
theorem w_c40 : (Jvm.Cond.code ({ cls := "java/math/MutableBigInteger", name := "normalize", desc := "()V" } : Jvm.MethodName) jdk_2101_method_21_code (4 : Nat) (Option.none : Option Jvm.ClassFile.FieldType)).before args0 about1 = true := code_word (m := ⟨7, 6⟩) (meth := k7m6) (c := k7c6) (by decide +kernel) rfl rfl rfl (by decide +kernel)
set_option maxRecDepth 65536 in
theorem w_c41 : (Jvm.Cond.code ({ cls := "java/math/MutableBigInteger", name := "primitiveLeftShift", desc := "(I)V" } : Jvm.MethodName) jdk_2101_method_42_code (8 : Nat) (Option.none : Option Jvm.ClassFile.FieldType)).before args0 about1 = true := code_word (m := ⟨7, 9⟩) (meth := k7m9) (c := k7c9) (by decide +kernel) rfl rfl rfl (by decide +kernel)
set_option maxRecDepth 65536 in
theorem w_c42 : (Jvm.Cond.code ({ cls := "java/math/BigInteger", name := "abs", desc := "()Ljava/math/BigInteger;" } : Jvm.MethodName) jdk_2097_method_79_code (1 : Nat) (Option.some (Jvm.ClassFile.FieldType.object "java/math/BigInteger"))).before args0 about1 = true := code_word (m := ⟨6, 8⟩) (meth := k6m8) (c := k6c8) (by decide +kernel) rfl rfl rfl (by decide +kernel)
def codes1 : List Jvm.Cond := [Jvm.Cond.code x code maxLocals ret, Jvm.Cond.code ({ cls := "com/example/slicewise/slicewise/Fraction", name := "of", desc := "(J)Lcom/example/slicewise/slicewise/Fraction;" } : Jvm.MethodName) prog_1_method_3_code (2 : Nat) (Option.some (Jvm.ClassFile.FieldType.object "com/example/slicewise/slicewise/Fraction")), Jvm.Cond.code ({ cls := "java/math/BigInteger", name := "valueOf", desc := "(J)Ljava/math/BigInteger;" } : Jvm.MethodName) jdk_2097_method_29_code (2 : Nat) (Option.some (Jvm.ClassFile.FieldType.object "java/math/BigInteger")), Jvm.Cond.code ({ cls := "com/example/slicewise/slicewise/Fraction", name := "<init>", desc := "(Ljava/math/BigInteger;Ljava/math/BigInteger;)V" } : Jvm.MethodName) prog_1_method_1_code (3 : Nat) (Option.none : Option Jvm.ClassFile.FieldType), Jvm.Cond.code ({ cls := "java/lang/Object", name := "<init>", desc := "()V" } : Jvm.MethodName) object_method_1_code (1 : Nat) (Option.none : Option Jvm.ClassFile.FieldType), Jvm.Cond.code ({ cls := "com/example/slicewise/slicewise/Fraction", name := "of", desc := "(JJ)Lcom/example/slicewise/slicewise/Fraction;" } : Jvm.MethodName) prog_1_method_4_code (4 : Nat) (Option.some (Jvm.ClassFile.FieldType.object "com/example/slicewise/slicewise/Fraction")), Jvm.Cond.code ({ cls := "com/example/slicewise/slicewise/Fraction", name := "of", desc := "(Ljava/math/BigInteger;Ljava/math/BigInteger;)Lcom/example/slicewise/slicewise/Fraction;" } : Jvm.MethodName) prog_1_method_2_code (3 : Nat) (Option.some (Jvm.ClassFile.FieldType.object "com/example/slicewise/slicewise/Fraction")), Jvm.Cond.code ({ cls := "java/math/BigInteger", name := "signum", desc := "()I" } : Jvm.MethodName) jdk_2097_method_81_code (1 : Nat) (Option.some Jvm.ClassFile.FieldType.int), Jvm.Cond.code ({ cls := "java/math/BigInteger", name := "gcd", desc := "(Ljava/math/BigInteger;)Ljava/math/BigInteger;" } : Jvm.MethodName) jdk_2097_method_73_code (5 : Nat) (Option.some (Jvm.ClassFile.FieldType.object "java/math/BigInteger")), Jvm.Cond.code ({ cls := "java/math/MutableBigInteger", name := "<init>", desc := "(Ljava/math/BigInteger;)V" } : Jvm.MethodName) jdk_2101_method_4_code (2 : Nat) (Option.none : Option Jvm.ClassFile.FieldType), Jvm.Cond.code ({ cls := "java/util/Arrays", name := "copyOf", desc := "([II)[I" } : Jvm.MethodName) jdk_65_method_123_code (3 : Nat) (Option.some (Jvm.ClassFile.FieldType.array Jvm.ClassFile.FieldType.int)), Jvm.Cond.code ({ cls := "java/math/MutableBigInteger", name := "hybridGCD", desc := "(Ljava/math/MutableBigInteger;)Ljava/math/MutableBigInteger;" } : Jvm.MethodName) jdk_2101_method_72_code (5 : Nat) (Option.some (Jvm.ClassFile.FieldType.object "java/math/MutableBigInteger")), Jvm.Cond.code ({ cls := "java/math/MutableBigInteger", name := "<init>", desc := "()V" } : Jvm.MethodName) jdk_2101_method_1_code (1 : Nat) (Option.none : Option Jvm.ClassFile.FieldType), Jvm.Cond.code ({ cls := "java/lang/Math", name := "abs", desc := "(I)I" } : Jvm.MethodName) jdk_29_method_59_code (1 : Nat) (Option.some Jvm.ClassFile.FieldType.int), Jvm.Cond.code ({ cls := "java/math/MutableBigInteger", name := "binaryGCD", desc := "(Ljava/math/MutableBigInteger;)Ljava/math/MutableBigInteger;" } : Jvm.MethodName) jdk_2101_method_73_code (13 : Nat) (Option.some (Jvm.ClassFile.FieldType.object "java/math/MutableBigInteger")), Jvm.Cond.code ({ cls := "java/math/MutableBigInteger", name := "getLowestSetBit", desc := "()I" } : Jvm.MethodName) jdk_2101_method_18_code (3 : Nat) (Option.some Jvm.ClassFile.FieldType.int), Jvm.Cond.code ({ cls := "java/lang/Integer", name := "numberOfTrailingZeros", desc := "(I)I" } : Jvm.MethodName) jdk_33_method_48_code (2 : Nat) (Option.some Jvm.ClassFile.FieldType.int), Jvm.Cond.code ({ cls := "java/math/MutableBigInteger", name := "rightShift", desc := "(I)V" } : Jvm.MethodName) jdk_2101_method_35_code (5 : Nat) (Option.none : Option Jvm.ClassFile.FieldType), Jvm.Cond.code ({ cls := "java/math/MutableBigInteger", name := "binaryGcd", desc := "(II)I" } : Jvm.MethodName) jdk_2101_method_74_code (5 : Nat) (Option.some Jvm.ClassFile.FieldType.int), Jvm.Cond.code ({ cls := "java/math/MutableBigInteger", name := "toBigInteger", desc := "(I)Ljava/math/BigInteger;" } : Jvm.MethodName) jdk_2101_method_9_code (2 : Nat) (Option.some (Jvm.ClassFile.FieldType.object "java/math/BigInteger")), Jvm.Cond.code ({ cls := "java/math/MutableBigInteger", name := "getMagnitudeArray", desc := "()[I" } : Jvm.MethodName) jdk_2101_method_7_code (2 : Nat) (Option.some (Jvm.ClassFile.FieldType.array Jvm.ClassFile.FieldType.int)), Jvm.Cond.code ({ cls := "java/math/BigInteger", name := "<init>", desc := "([II)V" } : Jvm.MethodName) jdk_2097_method_25_code (3 : Nat) (Option.none : Option Jvm.ClassFile.FieldType), Jvm.Cond.code ({ cls := "java/lang/Number", name := "<init>", desc := "()V" } : Jvm.MethodName) jdk_18_method_1_code (1 : Nat) (Option.none : Option Jvm.ClassFile.FieldType), Jvm.Cond.code ({ cls := "java/math/BigInteger", name := "equals", desc := "(Ljava/lang/Object;)Z" } : Jvm.MethodName) jdk_2097_method_124_code (7 : Nat) (Option.some Jvm.ClassFile.FieldType.boolean), Jvm.Cond.code ({ cls := "com/example/slicewise/slicewise/Fraction", name := "compareTo", desc := "(Lcom/example/slicewise/slicewise/Fraction;)I" } : Jvm.MethodName) prog_1_method_19_code (2 : Nat) (Option.some Jvm.ClassFile.FieldType.int), Jvm.Cond.code ({ cls := "java/math/BigInteger", name := "multiply", desc := "(Ljava/math/BigInteger;)Ljava/math/BigInteger;" } : Jvm.MethodName) jdk_2097_method_40_code (2 : Nat) (Option.some (Jvm.ClassFile.FieldType.object "java/math/BigInteger")), Jvm.Cond.code ({ cls := "java/math/BigInteger", name := "multiply", desc := "(Ljava/math/BigInteger;ZZI)Ljava/math/BigInteger;" } : Jvm.MethodName) jdk_2097_method_42_code (9 : Nat) (Option.some (Jvm.ClassFile.FieldType.object "java/math/BigInteger")), Jvm.Cond.code ({ cls := "java/math/BigInteger", name := "multiplyByInt", desc := "([III)Ljava/math/BigInteger;" } : Jvm.MethodName) jdk_2097_method_43_code (13 : Nat) (Option.some (Jvm.ClassFile.FieldType.object "java/math/BigInteger")), Jvm.Cond.code ({ cls := "java/lang/Integer", name := "bitCount", desc := "(I)I" } : Jvm.MethodName) jdk_33_method_49_code (1 : Nat) (Option.some Jvm.ClassFile.FieldType.int), Jvm.Cond.code ({ cls := "java/math/BigInteger", name := "shiftLeft", desc := "([II)[I" } : Jvm.MethodName) jdk_2097_method_102_code (10 : Nat) (Option.some (Jvm.ClassFile.FieldType.array Jvm.ClassFile.FieldType.int)), Jvm.Cond.code ({ cls := "java/math/BigInteger", name := "compareTo", desc := "(Ljava/math/BigInteger;)I" } : Jvm.MethodName) jdk_2097_method_121_code (2 : Nat) (Option.some Jvm.ClassFile.FieldType.int), Jvm.Cond.code ({ cls := "java/math/BigInteger", name := "compareMagnitude", desc := "(Ljava/math/BigInteger;)I" } : Jvm.MethodName) jdk_2097_method_122_code (9 : Nat) (Option.some Jvm.ClassFile.FieldType.int), Jvm.Cond.code ({ cls := "com/example/slicewise/slicewise/Fraction", name := "equals", desc := "(Ljava/lang/Object;)Z" } : Jvm.MethodName) prog_1_method_20_code (2 : Nat) (Option.some Jvm.ClassFile.FieldType.boolean), Jvm.Cond.code ({ cls := "com/example/slicewise/slicewise/Fraction", name := "signum", desc := "()I" } : Jvm.MethodName) prog_1_method_11_code (1 : Nat) (Option.some Jvm.ClassFile.FieldType.int), Jvm.Cond.code ({ cls := "java/math/BigInteger", name := "<init>", desc := "(J)V" } : Jvm.MethodName) jdk_2097_method_30_code (4 : Nat) (Option.none : Option Jvm.ClassFile.FieldType), Jvm.Cond.code ({ cls := "java/math/BigInteger", name := "bitLengthForInt", desc := "(I)I" } : Jvm.MethodName) jdk_2097_method_74_code (1 : Nat) (Option.some Jvm.ClassFile.FieldType.int), Jvm.Cond.code ({ cls := "java/lang/Integer", name := "numberOfLeadingZeros", desc := "(I)I" } : Jvm.MethodName) jdk_33_method_47_code (2 : Nat) (Option.some Jvm.ClassFile.FieldType.int), Jvm.Cond.code ({ cls := "java/math/MutableBigInteger", name := "primitiveRightShift", desc := "(I)V" } : Jvm.MethodName) jdk_2101_method_41_code (7 : Nat) (Option.none : Option Jvm.ClassFile.FieldType), Jvm.Cond.code ({ cls := "java/math/MutableBigInteger", name := "difference", desc := "(Ljava/math/MutableBigInteger;)I" } : Jvm.MethodName) jdk_2101_method_50_code (8 : Nat) (Option.some Jvm.ClassFile.FieldType.int), Jvm.Cond.code ({ cls := "java/math/MutableBigInteger", name := "compare", desc := "(Ljava/math/MutableBigInteger;)I" } : Jvm.MethodName) jdk_2101_method_15_code (8 : Nat) (Option.some Jvm.ClassFile.FieldType.int), Jvm.Cond.code ({ cls := "java/math/MutableBigInteger", name := "normalize", desc := "()V" } : Jvm.MethodName) jdk_2101_method_21_code (4 : Nat) (Option.none : Option Jvm.ClassFile.FieldType), Jvm.Cond.code ({ cls := "java/math/MutableBigInteger", name := "primitiveLeftShift", desc := "(I)V" } : Jvm.MethodName) jdk_2101_method_42_code (8 : Nat) (Option.none : Option Jvm.ClassFile.FieldType), Jvm.Cond.code ({ cls := "java/math/BigInteger", name := "abs", desc := "()Ljava/math/BigInteger;" } : Jvm.MethodName) jdk_2097_method_79_code (1 : Nat) (Option.some (Jvm.ClassFile.FieldType.object "java/math/BigInteger"))]
set_option maxRecDepth 65536 in
theorem codes_eq : words1.filter isCode = codes1 := rfl
theorem w_codes : ∀ c ∈ words1.filter isCode, c.before args0 about1 = true := by
  rw [codes_eq]
  intro c hc
  simp only [codes1, List.mem_cons, List.not_mem_nil, or_false] at hc
  rcases hc with rfl | rfl | rfl | rfl | rfl | rfl | rfl | rfl | rfl | rfl | rfl | rfl | rfl | rfl | rfl | rfl | rfl | rfl | rfl | rfl | rfl | rfl | rfl | rfl | rfl | rfl | rfl | rfl | rfl | rfl | rfl | rfl | rfl | rfl | rfl | rfl | rfl | rfl | rfl | rfl | rfl | rfl | rfl
  · exact w_c0
  · exact w_c1
  · exact w_c2
  · exact w_c3
  · exact w_c4
  · exact w_c5
  · exact w_c6
  · exact w_c7
  · exact w_c8
  · exact w_c9
  · exact w_c10
  · exact w_c11
  · exact w_c12
  · exact w_c13
  · exact w_c14
  · exact w_c15
  · exact w_c16
  · exact w_c17
  · exact w_c18
  · exact w_c19
  · exact w_c20
  · exact w_c21
  · exact w_c22
  · exact w_c23
  · exact w_c24
  · exact w_c25
  · exact w_c26
  · exact w_c27
  · exact w_c28
  · exact w_c29
  · exact w_c30
  · exact w_c31
  · exact w_c32
  · exact w_c33
  · exact w_c34
  · exact w_c35
  · exact w_c36
  · exact w_c37
  · exact w_c38
  · exact w_c39
  · exact w_c40
  · exact w_c41
  · exact w_c42
set_option maxRecDepth 65536 in
theorem w_t1 : (words1.take 24).all (fun c => isCode c || c.before args0 about1) = true := by decide +kernel
set_option maxRecDepth 65536 in
theorem w_t2 : ((words1.drop 24).take 24).all (fun c => isCode c || c.before args0 about1) = true := by decide +kernel
set_option maxRecDepth 65536 in
theorem w_t3 : (((words1.drop 24).drop 24).take 24).all (fun c => isCode c || c.before args0 about1) = true := by decide +kernel
set_option maxRecDepth 65536 in
theorem w_t4 : ((((words1.drop 24).drop 24).drop 24).take 24).all (fun c => isCode c || c.before args0 about1) = true := by decide +kernel
set_option maxRecDepth 65536 in
theorem w_t5 : (((((words1.drop 24).drop 24).drop 24).drop 24).take 24).all (fun c => isCode c || c.before args0 about1) = true := by decide +kernel
set_option maxRecDepth 65536 in
theorem w_t6 : ((((((words1.drop 24).drop 24).drop 24).drop 24).drop 24).take 24).all (fun c => isCode c || c.before args0 about1) = true := by decide +kernel
set_option maxRecDepth 65536 in
theorem w_t7 : (((((((words1.drop 24).drop 24).drop 24).drop 24).drop 24).drop 24).take 24).all (fun c => isCode c || c.before args0 about1) = true := by decide +kernel
set_option maxRecDepth 65536 in
theorem w_t8 : ((((((((words1.drop 24).drop 24).drop 24).drop 24).drop 24).drop 24).drop 24).take 24).all (fun c => isCode c || c.before args0 about1) = true := by decide +kernel
set_option maxRecDepth 65536 in
theorem w_t9 : (((((((((words1.drop 24).drop 24).drop 24).drop 24).drop 24).drop 24).drop 24).drop 24).take 24).all (fun c => isCode c || c.before args0 about1) = true := by decide +kernel
set_option maxRecDepth 65536 in
theorem w_t10 : (((((((((words1.drop 24).drop 24).drop 24).drop 24).drop 24).drop 24).drop 24).drop 24).drop 24).all (fun c => isCode c || c.before args0 about1) = true := by decide +kernel
theorem w_tables : (allAtoms (Jvm.Cond.code x code maxLocals ret :: tables_1)).before args0 about1 = true := by
  rw [allAtoms_all]
  show words1.all (fun c => c.before args0 about1) = true
  refine all_split ?_ w_codes
  rw [← List.take_append_drop 24 words1, List.all_append, w_t1, ← List.take_append_drop 24 (words1.drop 24), List.all_append, w_t2, ← List.take_append_drop 24 ((words1.drop 24).drop 24), List.all_append, w_t3, ← List.take_append_drop 24 (((words1.drop 24).drop 24).drop 24), List.all_append, w_t4, ← List.take_append_drop 24 ((((words1.drop 24).drop 24).drop 24).drop 24), List.all_append, w_t5, ← List.take_append_drop 24 (((((words1.drop 24).drop 24).drop 24).drop 24).drop 24), List.all_append, w_t6, ← List.take_append_drop 24 ((((((words1.drop 24).drop 24).drop 24).drop 24).drop 24).drop 24), List.all_append, w_t7, ← List.take_append_drop 24 (((((((words1.drop 24).drop 24).drop 24).drop 24).drop 24).drop 24).drop 24), List.all_append, w_t8, ← List.take_append_drop 24 ((((((((words1.drop 24).drop 24).drop 24).drop 24).drop 24).drop 24).drop 24).drop 24), List.all_append, w_t9, w_t10]
  rfl
set_option maxRecDepth 65536 in
theorem w_rest : rest_1_c.before args0 about1 = true := by decide +kernel
set_option maxRecDepth 65536 in
theorem w_case : (Jvm.Cond.and given_1 narrow_1).before args0 about1 = true := by decide +kernel
theorem w_applies : (headSpec (Jvm.Cond.code x code maxLocals ret :: tables_1) room_1).applies x e0.platform about1 = true :=
  (Spec.applies_iff w_frames).mpr ⟨w_running, w_runnable, w_alone, w_named, w_hears, w_ripe, w_room, w_tables⟩
theorem atStart : AtStart classFile x code maxLocals ret World_1 tables_1 room_1 Calls_1 rest_1 Pre_1 launch0 p0 e0 about1 theMethod args0 below0 :=
  ⟨lists_1, trivial, launch0.admits_env _ _ _, launch0.least_env, fairChoices_fair.cas, fairChoices_fair.clock, w_frames, w_args, w_heap, w_applies, trivial, w_rest, w_case⟩
end start1
theorem witness_1 : WitnessClaimed_1 := ⟨start1.p0, start1.e0, start1.about1, start1.theMethod, start1.args0, start1.below0, start1.atStart⟩
end Jvm.Pilot.@@N@@
