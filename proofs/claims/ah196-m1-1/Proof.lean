import JvmDerived
import JvmDerived.Pilot.@@N@@Statement
import JvmDerived.Pilot.@@N@@Code
set_option linter.unusedVariables false
set_option linter.unusedSimpArgs false
namespace Jvm.Pilot.@@N@@
open Jvm Jvm.ClassFile Sem Op Lib Jvm.Free Jvm.Stand Jvm.LawKit Jvm.RoadKit Bundle Jvm.Pilot.@@N@@.Jvm.D
/-! OWN PRELUDE. What the walk knows of the objects that it made: a list of (address, what stands there): an array with its components, or an object with its fields. -/
abbrev oDsc : Type := Sum (FieldType × List Value) (String × List (String × String × String × Value))
abbrev oDs : Type := List (Addr × oDsc)
def oAt (Z : State) (h : Heap) (a : Addr) (d : oDsc) : Prop := match d with
  | .inl (ty, vs) => ∃ c : Cell, Arr Z h a c ty ∧ c.slots = vs.toArray
  | .inr (C, fs) => Exa Z h a C ∧ ∀ f ∈ fs, Fld Z h a f.1 f.2.1 f.2.2.1 f.2.2.2
def oMem (Z : State) (h0 h : Heap) (ds : oDs) : Prop :=
  Ext h0 h ∧ (∀ (i j : Nat) (x y : Addr × oDsc), i < j → ds[i]? = some x → ds[j]? = some y → x.1 < y.1) ∧ ∀ (i : Nat) (x : Addr × oDsc), ds[i]? = some x → h0.size ≤ x.1 ∧ oAt Z h x.1 x.2
theorem oExt_refl (h : Heap) : Ext h h := ⟨Nat.le_refl _, fun _ _ q => q⟩
theorem oMem.start (Z : State) (h : Heap) : oMem Z h h [] := ⟨oExt_refl h, fun _ _ _ _ _ q => by simp at q, fun _ _ q => by simp at q⟩
theorem oAt.lt {Z : State} {h : Heap} {a : Addr} {d : oDsc} (A : oAt Z h a d) : a < h.size := by
  rcases d with ⟨ty, vs⟩ | ⟨C, fs⟩
  · obtain ⟨c, A, -⟩ := A; exact A.lt
  · exact A.1.lt
theorem oAt.ext {Z : State} {h h' : Heap} {a : Addr} {d : oDsc} (A : oAt Z h a d) (E : Ext h h') : oAt Z h' a d := by
  rcases d with ⟨ty, vs⟩ | ⟨C, fs⟩
  · obtain ⟨c, A, q⟩ := A; exact ⟨c, A.ext E, q⟩
  · exact ⟨A.1.ext E, fun f hf => (A.2 f hf).ext E⟩
theorem oAt.other {Z : State} {h h' : Heap} {a b : Addr} {sl : Nat} {v : Value} {d : oDsc} (A : oAt Z h b d) (W : Wr h h' a sl v) (q : b ≠ a) : oAt Z h' b d := by
  rcases d with ⟨ty, vs⟩ | ⟨C, fs⟩
  · obtain ⟨c, A, r⟩ := A; exact ⟨c, A.other W q, r⟩
  · exact ⟨A.1.wr W, fun f hf => (A.2 f hf).other W (Or.inl q)⟩
theorem oMem.push {Z : State} {h0 h h' : Heap} {ds : oDs} {d : oDsc} (M : oMem Z h0 h ds) (E : Ext h h') (A : oAt Z h' h.size d) : oMem Z h0 h' (ds ++ [(h.size, d)]) := by
  obtain ⟨M1, M2, M3⟩ := M
  refine ⟨⟨Nat.le_trans M1.1 E.1, fun a c q => E.2 a c (M1.2 a c q)⟩, fun i j x y hij hi hj => ?_, fun i x hi => ?_⟩
  · rw [List.getElem?_append] at hi hj
    split at hj
    · rw [if_pos (by omega)] at hi; exact M2 i j x y hij hi hj
    · rename_i nj
      have hjl : j - ds.length = 0 := by
        rcases Nat.eq_zero_or_pos (j - ds.length) with q | q
        · exact q
        · rw [List.getElem?_eq_none (by simp; omega)] at hj; cases hj
      rw [hjl] at hj; cases hj
      rw [if_pos (by omega)] at hi
      exact (M3 i x hi).2.lt
  · rw [List.getElem?_append] at hi
    split at hi
    · exact ⟨(M3 i x hi).1, (M3 i x hi).2.ext E⟩
    · rename_i ni
      have hil : i - ds.length = 0 := by
        rcases Nat.eq_zero_or_pos (i - ds.length) with q | q
        · exact q
        · rw [List.getElem?_eq_none (by simp; omega)] at hi; cases hi
      rw [hil] at hi; cases hi
      exact ⟨M1.1, A⟩
theorem oMem.put {Z : State} {h0 h h' : Heap} {ds : oDs} {i : Nat} {a : Addr} {d d' : oDsc} {sl : Nat} {v : Value} (M : oMem Z h0 h ds) (hi : ds[i]? = some (a, d)) (W : Wr h h' a sl v) (A : oAt Z h' a d') : oMem Z h0 h' (ds.set i (a, d')) := by
  obtain ⟨M1, M2, M3⟩ := M
  have ha := (M3 i _ hi).1
  have hlt : i < ds.length := (List.getElem?_eq_some_iff.mp hi).1
  have fst : ∀ (j : Nat) (x : Addr × oDsc), (ds.set i (a, d'))[j]? = some x → ∃ y : Addr × oDsc, ds[j]? = some y ∧ y.1 = x.1 := fun j x hx => by
    rw [List.getElem?_set] at hx
    split at hx
    · rename_i e; subst e; cases hx; exact ⟨_, hi, rfl⟩
    · exact ⟨x, hx, rfl⟩
  refine ⟨⟨Nat.le_trans M1.1 (Nat.le_of_eq W.size.symm), fun x c q => ?_⟩, fun j k x y hjk hj hk => ?_, fun j x hx => ?_⟩
  · obtain ⟨c', q1, -, -, -, q5, -⟩ := wr_at W (M1.2 x c q)
    have : x ≠ a := Nat.ne_of_lt (Nat.lt_of_lt_of_le (Array.getElem?_eq_some_iff.mp q).1 ha)
    rw [← q5 this]; exact q1
  · obtain ⟨x', hx', ex⟩ := fst j x hj
    obtain ⟨y', hy', ey⟩ := fst k y hk
    rw [← ex, ← ey]; exact M2 j k x' y' hjk hx' hy'
  · rw [List.getElem?_set] at hx
    split at hx
    · rename_i e; subst e; cases hx; exact ⟨ha, A⟩
    · rename_i e
      refine ⟨(M3 j x hx).1, (M3 j x hx).2.other W fun q => ?_⟩
      rcases Nat.lt_or_gt_of_ne e with r | r
      · have := M2 i j _ _ r hi hx; rw [q] at this; exact Nat.lt_irrefl _ this
      · have := M2 j i _ _ r hx hi; rw [q] at this; exact Nat.lt_irrefl _ this
/-- the fields' places are unlike -/
def oApart (Z : State) (fs : List (String × String × String × Value)) : Prop :=
  ∀ (i j : Nat) (f g : String × String × String × Value), i ≠ j → fs[i]? = some f → fs[j]? = some g → Jvm.RoadKit.slotOf Z f.1 f.2.1 f.2.2.1 ≠ Jvm.RoadKit.slotOf Z g.1 g.2.1 g.2.2.1
theorem oApart.of {Z : State} {a0 : Array Value} {C : String} {fs : List (String × String × String × Value)} (hL : ∀ f ∈ fs, Laid Z a0 C f.1 f.2.1 f.2.2.1 ∧ ∃ t, parseFieldDescriptor f.2.2.1 = some t) (hn : (fs.map fun f => f.2.1).Nodup) : oApart Z fs := fun i j f g hij hi hj => by
  obtain ⟨L1, t1, p1⟩ := hL f (List.mem_of_getElem? hi)
  obtain ⟨L2, t2, p2⟩ := hL g (List.mem_of_getElem? hj)
  refine slot_ne L1 L2 (fun q => hij ?_) p1 p2
  have e1 : (fs.map fun f => f.2.1)[i]? = some f.2.1 := by rw [List.getElem?_map, hi]; rfl
  have e2 : (fs.map fun f => f.2.1)[j]? = some g.2.1 := by rw [List.getElem?_map, hj]; rfl
  rw [q] at e1
  have l1 := (List.getElem?_eq_some_iff.mp e1).1
  exact (List.getElem?_inj l1 hn).mp (e1.trans e2.symm)
/-- what a walk's texts share: the machine, the tables, the body's bytes, its class, its result's type, its name -/
def oK (p : Program) (s : State) (m : MethodId) (meth : Method) (c : Code) (Z : State) (own : String) (by0 : ByteArray) (ml : Nat) (ret : Option FieldType) (nm : String) : Prop :=
  (p.tables.exec = Jvm.exec ∧ Z.Warmed39 s.vm ∧ c.code = by0 ∧ c.maxLocals = ml) ∧ s.vm.findClass own = some m.cls ∧ meth.sig.returnType = ret ∧ meth.locks = false ∧ meth.name = nm
theorem oK.since {p : Program} {s : State} {m : MethodId} {meth : Method} {c : Code} {Z : State} {own nm : String} {by0 : ByteArray} {ml : Nat} {ret : Option FieldType} {vm0 : Vm} {k0 : Nat} (K : oK p s m meth c Z own by0 ml ret nm) (hS : s.Since vm0 k0) : oK p (s.setVm vm0) m meth c Z own by0 ml ret nm :=
  ⟨⟨K.1.1, State.Warmed39.trans K.1.2.1 hS.1, K.1.2.2⟩, (hS.1.alike.findClass _ _).trans K.2.1, K.2.2⟩
theorem oMem.ext {Z : State} {h0 h h' : Heap} {ds : oDs} (M : oMem Z h0 h ds) (E : Ext h h') : oMem Z h0 h' ds := ⟨⟨Nat.le_trans M.1.1 E.1, fun a c q => E.2 a c (M.1.2 a c q)⟩, M.2.1, fun i x q => ⟨(M.2.2 i x q).1, (M.2.2 i x q).2.ext E⟩⟩
/-- the walk stands at T, knows ds of what it made, and has booked cells and slots -/
def oIn (p : Program) (l : Launch) (e : Env) (R : Room) (s : State) (m : MethodId) (args : Array Value) (below : List Frame) (meth : Method) (c : Code) (Z : State) (h0 : Heap) (T : State) (ds : oDs) (cells slots : Nat) : Prop :=
  ∃ (vm0 : Vm) (k0 : Nat) (locs : List Loc), Stand p l e R (s.setVm vm0) m args below meth c T locs cells slots ∧ s.Since vm0 k0 ∧ k0 ≤ T.heap.size ∧ Fr h0.size locs ∧ oMem Z h0 T.heap ds
/-- the run from T with the frame g returns, and P holds of what it returns and of what it leaves -/
def oEnds (p : Program) (e : Env) (R : Room) (s : State) (below : List Frame) (Z : State) (h0 : Heap) (P : Option Value → oDs → Prop) (T : State) (g : JFrame) : Prop :=
  ∃ s₂ o, Steps p.tables e below (T.setTop g) s₂ ∧ s₂.status = .running ∧ Ended s₂ below o ∧ ∃ v L, o = .returned v ∧ (Fr h0.size L ∧ ∃ ds', P v ds' ∧ oMem Z h0 s₂.heap ds') ∧ ReturnedEndW s o s₂ L R.cells R.slots
/-- from every state that knows ds, at pc with these locals and this stack, the body returns as P says -/
def oW (p : Program) (l : Launch) (e : Env) (R : Room) (s : State) (m : MethodId) (args : Array Value) (below : List Frame) (meth : Method) (c : Code) (Z : State) (h0 : Heap) (P : Option Value → oDs → Prop) (ds : oDs) (cells slots pc : Nat) (Ls : Array Slot) (S : List Value) : Prop :=
  ∀ T, oIn p l e R s m args below meth c Z h0 T ds cells slots → oEnds p e R s below Z h0 P T (mkF m pc Ls S)
/-- a body's contract: called with as' where the objects made are ds, it returns as P says, within the room rm -/
def oCtr (l : Launch) (Z : State) (h0 : Heap) (ws : List Jvm.Cond) (y : MethodName) (by0 : ByteArray) (ml : Nat) (ret : Option FieldType) (rm : Room) (as' : Array Value) (ds : oDs) (P : Option Value → oDs → Prop) : Prop :=
  ∀ h, oMem Z h0 h ds → MetFree l y (head1 (Jvm.Cond.code y by0 ml ret :: ws) rm) (fun a U => a = as' ∧ Z.Warmed39 U.vm ∧ U.heap = h) (fun _ _ _ _ _ => True)
    (fun _ U o U' => ∃ v L, o = .returned v ∧ (Fr h0.size L ∧ ∃ ds', P v ds' ∧ oMem Z h0 U'.heap ds') ∧ ReturnedEndW U o U' L rm.cells rm.slots)
def oVal (P2 : Value → oDs → Prop) (v : Option Value) (ds : oDs) : Prop := ∃ w, v = some w ∧ P2 w ds
def oVoid (P3 : oDs → Prop) (v : Option Value) (ds : oDs) : Prop := v = none ∧ P3 ds
theorem oCtr.of {l : Launch} {Z : State} {h0 : Heap} {ws : List Jvm.Cond} {y : MethodName} {by0 : ByteArray} {ml : Nat} {ret : Option FieldType} {rm : Room} {as' : Array Value} {ds : oDs} {P : Option Value → oDs → Prop} {Ls : Array Slot}
    (hpl : plainFor y = true) (hef : ∀ m, entryFrame m as' ml = mkF m 0 Ls [])
    (hb : ∀ p e s m below meth c, oK p s m meth c Z y.cls by0 ml ret y.name → oW p l e rm s m as' below meth c Z h0 P ds 0 0 0 Ls []) : oCtr l Z h0 ws y by0 ml ret rm as' ds P := by
  intro h M
  refine MetFree.of_bodySF hpl hisR ?_
  intro p e s m args below meth c s₁ Bd hml0 hP hK
  obtain ⟨rfl, hZ, hh⟩ := hP
  have e0 : s₁.heap = h := by rw [← hh, Bd.state]; rfl
  have K : oK p s m meth c Z y.cls by0 ml ret y.name := ⟨⟨Bd.exec, hZ, Bd.bytes, hml0⟩, findClass_of_methodNamed Bd.named, Bd.returns, Bd.notSynchronized, (name_of_methodNamed Bd.named Bd.method).1⟩
  obtain ⟨s₂, o, h1, h2⟩ := hb p e s m below meth c K s₁ ⟨s.vm, 0, [], by rw [State.setVm_self]; exact Stand.of_body Bd, (State.WarmedH.refl s).since 0, Nat.zero_le _, Fr.nil _, by rw [e0]; exact M⟩
  exact ⟨s₂, o, castTop (hef m) h1, h2⟩
section Steps
variable {p : Program} {l : Launch} {e : Env} {R : Room} {s : State} {m : MethodId} {args : Array Value} {below : List Frame} {meth : Method} {c : Code} {Z : State} {h0 : Heap} {own nm : String} {by0 : ByteArray} {ml : Nat} {ret : Option FieldType} {P : Option Value → oDs → Prop} {ds ds' : oDs} {cells slots pc pc' : Nat} {Ls Ls' : Array Slot} {S S' : List Value} {a0 : Array Value}
theorem oW.pure (st : ∀ (vm0 : Vm) (k0 : Nat), s.Since vm0 k0 → ∀ T locs, Stand p l e R (s.setVm vm0) m args below meth c T locs cells slots → ∀ t, Steps p.tables e below (T.setTop (mkF m pc' Ls' S')) t → Steps p.tables e below (T.setTop (mkF m pc Ls S)) t) (hr : oW p l e R s m args below meth c Z h0 P ds cells slots pc' Ls' S') : oW p l e R s m args below meth c Z h0 P ds cells slots pc Ls S := by
  rintro T ⟨vm0, k0, locs, X, hS, hK0, N, M⟩
  obtain ⟨s₂, o, h1, h2⟩ := hr T ⟨vm0, k0, locs, X, hS, hK0, N, M⟩
  exact ⟨s₂, o, st vm0 k0 hS T locs X _ h1, h2⟩
theorem oW.ends {T T' : State} {g g' : JFrame} (st : ∀ t, Steps p.tables e below (T'.setTop g') t → Steps p.tables e below (T.setTop g) t) (hr : oEnds p e R s below Z h0 P T' g') : oEnds p e R s below Z h0 P T g := by
  obtain ⟨s₂, o, h1, h2⟩ := hr
  exact ⟨s₂, o, st _ h1, h2⟩
theorem oW.join {α : Type} {F : α → Prop} {pcj : Nat} {Lf : α → Array Slot} {Sf : α → List Value} {dsf : α → oDs} (h1 : (∀ z, F z → oW p l e R s m args below meth c Z h0 P (dsf z) cells slots pcj (Lf z) (Sf z)) → oW p l e R s m args below meth c Z h0 P ds cells slots pc Ls S) (h2 : ∀ z, F z → oW p l e R s m args below meth c Z h0 P (dsf z) cells slots pcj (Lf z) (Sf z)) : oW p l e R s m args below meth c Z h0 P ds cells slots pc Ls S := h1 h2
theorem oW.iload (K : oK p s m meth c Z own by0 ml ret nm) {k : Nat} {v : Int32} (hd : decode by0 pc = .ok (.iload k, 2)) (hl : Ls[k]? = some (.val (.int v))) (hp : pc + 2 = pc') (hr : oW p l e R s m args below meth c Z h0 P ds cells slots pc' Ls (.int v :: S)) : oW p l e R s m args below meth c Z h0 P ds cells slots pc Ls (S) := by
  subst hp
  exact oW.pure (fun vm0 k0 hS T locs X t k => XS.iload X.here K.1.1 rfl (hb K.1.2.2.1 hd) hl k) hr
theorem oW.iloadN (K : oK p s m meth c Z own by0 ml ret nm) {k : Fin 4} {v : Int32} (hd : decode by0 pc = .ok (.iload_n k, 1)) (hl : Ls[k.val]? = some (.val (.int v))) (hp : pc + 1 = pc') (hr : oW p l e R s m args below meth c Z h0 P ds cells slots pc' Ls (.int v :: S)) : oW p l e R s m args below meth c Z h0 P ds cells slots pc Ls (S) := by
  subst hp
  exact oW.pure (fun vm0 k0 hS T locs X t k => XS.iloadN X.here K.1.1 rfl (hb K.1.2.2.1 hd) hl k) hr
theorem oW.istore (K : oK p s m meth c Z own by0 ml ret nm) {k : Nat} {v : Int32} (hd : decode by0 pc = .ok (.istore k, 2)) (hl : storeLocals Ls k (.int v) = some Ls') (hp : pc + 2 = pc') (hr : oW p l e R s m args below meth c Z h0 P ds cells slots pc' Ls' (S)) : oW p l e R s m args below meth c Z h0 P ds cells slots pc Ls (.int v :: S) := by
  subst hp
  exact oW.pure (fun vm0 k0 hS T locs X t k => XS.istore X.here K.1.1 rfl (hb K.1.2.2.1 hd) rfl hl k) hr
theorem oW.istoreN (K : oK p s m meth c Z own by0 ml ret nm) {k : Fin 4} {v : Int32} (hd : decode by0 pc = .ok (.istore_n k, 1)) (hl : storeLocals Ls k.val (.int v) = some Ls') (hp : pc + 1 = pc') (hr : oW p l e R s m args below meth c Z h0 P ds cells slots pc' Ls' (S)) : oW p l e R s m args below meth c Z h0 P ds cells slots pc Ls (.int v :: S) := by
  subst hp
  exact oW.pure (fun vm0 k0 hS T locs X t k => XS.istoreN X.here K.1.1 rfl (hb K.1.2.2.1 hd) rfl hl k) hr
theorem oW.lload (K : oK p s m meth c Z own by0 ml ret nm) {k : Nat} {v : Int64} (hd : decode by0 pc = .ok (.lload k, 2)) (hl : Ls[k]? = some (.val (.long v))) (hp : pc + 2 = pc') (hr : oW p l e R s m args below meth c Z h0 P ds cells slots pc' Ls (.long v :: S)) : oW p l e R s m args below meth c Z h0 P ds cells slots pc Ls (S) := by
  subst hp
  exact oW.pure (fun vm0 k0 hS T locs X t k => XS.lload X.here K.1.1 rfl (hb K.1.2.2.1 hd) hl k) hr
theorem oW.lloadN (K : oK p s m meth c Z own by0 ml ret nm) {k : Fin 4} {v : Int64} (hd : decode by0 pc = .ok (.lload_n k, 1)) (hl : Ls[k.val]? = some (.val (.long v))) (hp : pc + 1 = pc') (hr : oW p l e R s m args below meth c Z h0 P ds cells slots pc' Ls (.long v :: S)) : oW p l e R s m args below meth c Z h0 P ds cells slots pc Ls (S) := by
  subst hp
  exact oW.pure (fun vm0 k0 hS T locs X t k => XS.lloadN X.here K.1.1 rfl (hb K.1.2.2.1 hd) hl k) hr
theorem oW.lstore (K : oK p s m meth c Z own by0 ml ret nm) {k : Nat} {v : Int64} (hd : decode by0 pc = .ok (.lstore k, 2)) (hl : storeLocals Ls k (.long v) = some Ls') (hp : pc + 2 = pc') (hr : oW p l e R s m args below meth c Z h0 P ds cells slots pc' Ls' (S)) : oW p l e R s m args below meth c Z h0 P ds cells slots pc Ls (.long v :: S) := by
  subst hp
  exact oW.pure (fun vm0 k0 hS T locs X t k => XS.lstore X.here K.1.1 rfl (hb K.1.2.2.1 hd) rfl hl k) hr
theorem oW.lstoreN (K : oK p s m meth c Z own by0 ml ret nm) {k : Fin 4} {v : Int64} (hd : decode by0 pc = .ok (.lstore_n k, 1)) (hl : storeLocals Ls k.val (.long v) = some Ls') (hp : pc + 1 = pc') (hr : oW p l e R s m args below meth c Z h0 P ds cells slots pc' Ls' (S)) : oW p l e R s m args below meth c Z h0 P ds cells slots pc Ls (.long v :: S) := by
  subst hp
  exact oW.pure (fun vm0 k0 hS T locs X t k => XS.lstoreN X.here K.1.1 rfl (hb K.1.2.2.1 hd) rfl hl k) hr
theorem oW.dload (K : oK p s m meth c Z own by0 ml ret nm) {k : Nat} {v : UInt64} (hd : decode by0 pc = .ok (.dload k, 2)) (hl : Ls[k]? = some (.val (.double v))) (hp : pc + 2 = pc') (hr : oW p l e R s m args below meth c Z h0 P ds cells slots pc' Ls (.double v :: S)) : oW p l e R s m args below meth c Z h0 P ds cells slots pc Ls (S) := by
  subst hp
  exact oW.pure (fun vm0 k0 hS T locs X t k => XS.dload X.here K.1.1 rfl (hb K.1.2.2.1 hd) hl k) hr
theorem oW.dloadN (K : oK p s m meth c Z own by0 ml ret nm) {k : Fin 4} {v : UInt64} (hd : decode by0 pc = .ok (.dload_n k, 1)) (hl : Ls[k.val]? = some (.val (.double v))) (hp : pc + 1 = pc') (hr : oW p l e R s m args below meth c Z h0 P ds cells slots pc' Ls (.double v :: S)) : oW p l e R s m args below meth c Z h0 P ds cells slots pc Ls (S) := by
  subst hp
  exact oW.pure (fun vm0 k0 hS T locs X t k => XS.dloadN X.here K.1.1 rfl (hb K.1.2.2.1 hd) hl k) hr
theorem oW.dstore (K : oK p s m meth c Z own by0 ml ret nm) {k : Nat} {v : UInt64} (hd : decode by0 pc = .ok (.dstore k, 2)) (hl : storeLocals Ls k (.double v) = some Ls') (hp : pc + 2 = pc') (hr : oW p l e R s m args below meth c Z h0 P ds cells slots pc' Ls' (S)) : oW p l e R s m args below meth c Z h0 P ds cells slots pc Ls (.double v :: S) := by
  subst hp
  exact oW.pure (fun vm0 k0 hS T locs X t k => XS.dstore X.here K.1.1 rfl (hb K.1.2.2.1 hd) rfl hl k) hr
theorem oW.dstoreN (K : oK p s m meth c Z own by0 ml ret nm) {k : Fin 4} {v : UInt64} (hd : decode by0 pc = .ok (.dstore_n k, 1)) (hl : storeLocals Ls k.val (.double v) = some Ls') (hp : pc + 1 = pc') (hr : oW p l e R s m args below meth c Z h0 P ds cells slots pc' Ls' (S)) : oW p l e R s m args below meth c Z h0 P ds cells slots pc Ls (.double v :: S) := by
  subst hp
  exact oW.pure (fun vm0 k0 hS T locs X t k => XS.dstoreN X.here K.1.1 rfl (hb K.1.2.2.1 hd) rfl hl k) hr
theorem oW.aload (K : oK p s m meth c Z own by0 ml ret nm) {k : Nat} {v : Value} (hd : decode by0 pc = .ok (.aload k, 2)) (hl : Ls[k]? = some (.val v)) (hv : v.isRef = true) (hp : pc + 2 = pc') (hr : oW p l e R s m args below meth c Z h0 P ds cells slots pc' Ls (v :: S)) : oW p l e R s m args below meth c Z h0 P ds cells slots pc Ls (S) := by
  subst hp
  exact oW.pure (fun vm0 k0 hS T locs X t k => XS.aload X.here K.1.1 rfl (hb K.1.2.2.1 hd) hl hv k) hr
theorem oW.aloadN (K : oK p s m meth c Z own by0 ml ret nm) {k : Fin 4} {v : Value} (hd : decode by0 pc = .ok (.aload_n k, 1)) (hl : Ls[k.val]? = some (.val v)) (hv : v.isRef = true) (hp : pc + 1 = pc') (hr : oW p l e R s m args below meth c Z h0 P ds cells slots pc' Ls (v :: S)) : oW p l e R s m args below meth c Z h0 P ds cells slots pc Ls (S) := by
  subst hp
  exact oW.pure (fun vm0 k0 hS T locs X t k => XS.aloadN X.here K.1.1 rfl (hb K.1.2.2.1 hd) hl hv k) hr
theorem oW.astore (K : oK p s m meth c Z own by0 ml ret nm) {k : Nat} {v : Value} (hd : decode by0 pc = .ok (.astore k, 2)) (hv : v.isRef = true) (hl : storeLocals Ls k v = some Ls') (hp : pc + 2 = pc') (hr : oW p l e R s m args below meth c Z h0 P ds cells slots pc' Ls' (S)) : oW p l e R s m args below meth c Z h0 P ds cells slots pc Ls (v :: S) := by
  subst hp
  exact oW.pure (fun vm0 k0 hS T locs X t k => XS.astore X.here K.1.1 rfl (hb K.1.2.2.1 hd) rfl hv hl k) hr
theorem oW.astoreN (K : oK p s m meth c Z own by0 ml ret nm) {k : Fin 4} {v : Value} (hd : decode by0 pc = .ok (.astore_n k, 1)) (hv : v.isRef = true) (hl : storeLocals Ls k.val v = some Ls') (hp : pc + 1 = pc') (hr : oW p l e R s m args below meth c Z h0 P ds cells slots pc' Ls' (S)) : oW p l e R s m args below meth c Z h0 P ds cells slots pc Ls (v :: S) := by
  subst hp
  exact oW.pure (fun vm0 k0 hS T locs X t k => XS.astoreN X.here K.1.1 rfl (hb K.1.2.2.1 hd) rfl hv hl k) hr
theorem oW.aconstNull (K : oK p s m meth c Z own by0 ml ret nm)  (hd : decode by0 pc = .ok (.aconst_null, 1))  (hp : pc + 1 = pc') (hr : oW p l e R s m args below meth c Z h0 P ds cells slots pc' Ls (.null :: S)) : oW p l e R s m args below meth c Z h0 P ds cells slots pc Ls (S) := by
  subst hp
  exact oW.pure (fun vm0 k0 hS T locs X t k => XS.aconstNull X.here K.1.1 rfl (hb K.1.2.2.1 hd) k) hr
theorem oW.iconst (K : oK p s m meth c Z own by0 ml ret nm) {i : Int} {v : Int32} (hd : decode by0 pc = .ok (.iconst i, 1)) (hv : v = Int32.ofInt i) (hp : pc + 1 = pc') (hr : oW p l e R s m args below meth c Z h0 P ds cells slots pc' Ls (.int v :: S)) : oW p l e R s m args below meth c Z h0 P ds cells slots pc Ls (S) := by
  subst hp hv
  exact oW.pure (fun vm0 k0 hS T locs X t k => XS.iconst X.here K.1.1 rfl (hb K.1.2.2.1 hd) k) hr
theorem oW.bipush (K : oK p s m meth c Z own by0 ml ret nm) {i : Int} {v : Int32} (hd : decode by0 pc = .ok (.bipush i, 2)) (hv : v = (Int8.ofInt i).toInt32) (hp : pc + 2 = pc') (hr : oW p l e R s m args below meth c Z h0 P ds cells slots pc' Ls (.int v :: S)) : oW p l e R s m args below meth c Z h0 P ds cells slots pc Ls (S) := by
  subst hp hv
  exact oW.pure (fun vm0 k0 hS T locs X t k => XS.bipush X.here K.1.1 rfl (hb K.1.2.2.1 hd) k) hr
theorem oW.sipush (K : oK p s m meth c Z own by0 ml ret nm) {i : Int} {v : Int32} (hd : decode by0 pc = .ok (.sipush i, 3)) (hv : v = (Int16.ofInt i).toInt32) (hp : pc + 3 = pc') (hr : oW p l e R s m args below meth c Z h0 P ds cells slots pc' Ls (.int v :: S)) : oW p l e R s m args below meth c Z h0 P ds cells slots pc Ls (S) := by
  subst hp hv
  exact oW.pure (fun vm0 k0 hS T locs X t k => XS.sipush X.here K.1.1 rfl (hb K.1.2.2.1 hd) k) hr
theorem oW.lconst (K : oK p s m meth c Z own by0 ml ret nm) {k : Fin 2} {v : Int64} (hd : decode by0 pc = .ok (.lconst k, 1)) (hv : v = Int64.ofNat k.val) (hp : pc + 1 = pc') (hr : oW p l e R s m args below meth c Z h0 P ds cells slots pc' Ls (.long v :: S)) : oW p l e R s m args below meth c Z h0 P ds cells slots pc Ls (S) := by
  subst hp hv
  exact oW.pure (fun vm0 k0 hS T locs X t k => XT.lconst X.here K.1.1 rfl (hb K.1.2.2.1 hd) k) hr
theorem oW.dconst0 (K : oK p s m meth c Z own by0 ml ret nm)  (hd : decode by0 pc = .ok (.dconst 0, 1))  (hp : pc + 1 = pc') (hr : oW p l e R s m args below meth c Z h0 P ds cells slots pc' Ls (.double 0 :: S)) : oW p l e R s m args below meth c Z h0 P ds cells slots pc Ls (S) := by
  subst hp
  exact oW.pure (fun vm0 k0 hS T locs X t k => XS.dconst0 X.here K.1.1 rfl (hb K.1.2.2.1 hd) rfl k) hr
theorem oW.dconst1 (K : oK p s m meth c Z own by0 ml ret nm)  (hd : decode by0 pc = .ok (.dconst 1, 1))  (hp : pc + 1 = pc') (hr : oW p l e R s m args below meth c Z h0 P ds cells slots pc' Ls (.double 4607182418800017408 :: S)) : oW p l e R s m args below meth c Z h0 P ds cells slots pc Ls (S) := by
  subst hp
  exact oW.pure (fun vm0 k0 hS T locs X t k => XS.dconst1 X.here K.1.1 rfl (hb K.1.2.2.1 hd) rfl k) hr
theorem oW.iadd (K : oK p s m meth c Z own by0 ml ret nm) {x y v : Int32} (hd : decode by0 pc = .ok (.iadd, 1)) (hv : v = x + y) (hp : pc + 1 = pc') (hr : oW p l e R s m args below meth c Z h0 P ds cells slots pc' Ls (.int v :: S)) : oW p l e R s m args below meth c Z h0 P ds cells slots pc Ls (.int y :: .int x :: S) := by
  subst hp hv
  exact oW.pure (fun vm0 k0 hS T locs X t k => XS.iadd X.here K.1.1 rfl (hb K.1.2.2.1 hd) rfl k) hr
theorem oW.ladd (K : oK p s m meth c Z own by0 ml ret nm) {x y v : Int64} (hd : decode by0 pc = .ok (.ladd, 1)) (hv : v = x + y) (hp : pc + 1 = pc') (hr : oW p l e R s m args below meth c Z h0 P ds cells slots pc' Ls (.long v :: S)) : oW p l e R s m args below meth c Z h0 P ds cells slots pc Ls (.long y :: .long x :: S) := by
  subst hp hv
  exact oW.pure (fun vm0 k0 hS T locs X t k => XT.ladd X.here K.1.1 rfl (hb K.1.2.2.1 hd) rfl k) hr
theorem oW.isub (K : oK p s m meth c Z own by0 ml ret nm) {x y v : Int32} (hd : decode by0 pc = .ok (.isub, 1)) (hv : v = x - y) (hp : pc + 1 = pc') (hr : oW p l e R s m args below meth c Z h0 P ds cells slots pc' Ls (.int v :: S)) : oW p l e R s m args below meth c Z h0 P ds cells slots pc Ls (.int y :: .int x :: S) := by
  subst hp hv
  exact oW.pure (fun vm0 k0 hS T locs X t k => XS.isub X.here K.1.1 rfl (hb K.1.2.2.1 hd) rfl k) hr
theorem oW.lsub (K : oK p s m meth c Z own by0 ml ret nm) {x y v : Int64} (hd : decode by0 pc = .ok (.lsub, 1)) (hv : v = x - y) (hp : pc + 1 = pc') (hr : oW p l e R s m args below meth c Z h0 P ds cells slots pc' Ls (.long v :: S)) : oW p l e R s m args below meth c Z h0 P ds cells slots pc Ls (.long y :: .long x :: S) := by
  subst hp hv
  exact oW.pure (fun vm0 k0 hS T locs X t k => XT.lsub X.here K.1.1 rfl (hb K.1.2.2.1 hd) rfl k) hr
theorem oW.imul (K : oK p s m meth c Z own by0 ml ret nm) {x y v : Int32} (hd : decode by0 pc = .ok (.imul, 1)) (hv : v = x * y) (hp : pc + 1 = pc') (hr : oW p l e R s m args below meth c Z h0 P ds cells slots pc' Ls (.int v :: S)) : oW p l e R s m args below meth c Z h0 P ds cells slots pc Ls (.int y :: .int x :: S) := by
  subst hp hv
  exact oW.pure (fun vm0 k0 hS T locs X t k => XS.imul X.here K.1.1 rfl (hb K.1.2.2.1 hd) rfl k) hr
theorem oW.lmul (K : oK p s m meth c Z own by0 ml ret nm) {x y v : Int64} (hd : decode by0 pc = .ok (.lmul, 1)) (hv : v = x * y) (hp : pc + 1 = pc') (hr : oW p l e R s m args below meth c Z h0 P ds cells slots pc' Ls (.long v :: S)) : oW p l e R s m args below meth c Z h0 P ds cells slots pc Ls (.long y :: .long x :: S) := by
  subst hp hv
  exact oW.pure (fun vm0 k0 hS T locs X t k => XT.lmul X.here K.1.1 rfl (hb K.1.2.2.1 hd) rfl k) hr
theorem oW.iand (K : oK p s m meth c Z own by0 ml ret nm) {x y v : Int32} (hd : decode by0 pc = .ok (.iand, 1)) (hv : v = x &&& y) (hp : pc + 1 = pc') (hr : oW p l e R s m args below meth c Z h0 P ds cells slots pc' Ls (.int v :: S)) : oW p l e R s m args below meth c Z h0 P ds cells slots pc Ls (.int y :: .int x :: S) := by
  subst hp hv
  exact oW.pure (fun vm0 k0 hS T locs X t k => XS.iand X.here K.1.1 rfl (hb K.1.2.2.1 hd) rfl k) hr
theorem oW.land (K : oK p s m meth c Z own by0 ml ret nm) {x y v : Int64} (hd : decode by0 pc = .ok (.land, 1)) (hv : v = x &&& y) (hp : pc + 1 = pc') (hr : oW p l e R s m args below meth c Z h0 P ds cells slots pc' Ls (.long v :: S)) : oW p l e R s m args below meth c Z h0 P ds cells slots pc Ls (.long y :: .long x :: S) := by
  subst hp hv
  exact oW.pure (fun vm0 k0 hS T locs X t k => XT.land X.here K.1.1 rfl (hb K.1.2.2.1 hd) rfl k) hr
theorem oW.ior (K : oK p s m meth c Z own by0 ml ret nm) {x y v : Int32} (hd : decode by0 pc = .ok (.ior, 1)) (hv : v = x ||| y) (hp : pc + 1 = pc') (hr : oW p l e R s m args below meth c Z h0 P ds cells slots pc' Ls (.int v :: S)) : oW p l e R s m args below meth c Z h0 P ds cells slots pc Ls (.int y :: .int x :: S) := by
  subst hp hv
  exact oW.pure (fun vm0 k0 hS T locs X t k => XT.ior X.here K.1.1 rfl (hb K.1.2.2.1 hd) rfl k) hr
theorem oW.lor (K : oK p s m meth c Z own by0 ml ret nm) {x y v : Int64} (hd : decode by0 pc = .ok (.lor, 1)) (hv : v = x ||| y) (hp : pc + 1 = pc') (hr : oW p l e R s m args below meth c Z h0 P ds cells slots pc' Ls (.long v :: S)) : oW p l e R s m args below meth c Z h0 P ds cells slots pc Ls (.long y :: .long x :: S) := by
  subst hp hv
  exact oW.pure (fun vm0 k0 hS T locs X t k => XT.lor X.here K.1.1 rfl (hb K.1.2.2.1 hd) rfl k) hr
theorem oW.ixor (K : oK p s m meth c Z own by0 ml ret nm) {x y v : Int32} (hd : decode by0 pc = .ok (.ixor, 1)) (hv : v = x ^^^ y) (hp : pc + 1 = pc') (hr : oW p l e R s m args below meth c Z h0 P ds cells slots pc' Ls (.int v :: S)) : oW p l e R s m args below meth c Z h0 P ds cells slots pc Ls (.int y :: .int x :: S) := by
  subst hp hv
  exact oW.pure (fun vm0 k0 hS T locs X t k => XT.ixor X.here K.1.1 rfl (hb K.1.2.2.1 hd) rfl k) hr
theorem oW.lxor (K : oK p s m meth c Z own by0 ml ret nm) {x y v : Int64} (hd : decode by0 pc = .ok (.lxor, 1)) (hv : v = x ^^^ y) (hp : pc + 1 = pc') (hr : oW p l e R s m args below meth c Z h0 P ds cells slots pc' Ls (.long v :: S)) : oW p l e R s m args below meth c Z h0 P ds cells slots pc Ls (.long y :: .long x :: S) := by
  subst hp hv
  exact oW.pure (fun vm0 k0 hS T locs X t k => XT.lxor X.here K.1.1 rfl (hb K.1.2.2.1 hd) rfl k) hr
theorem oW.idiv (K : oK p s m meth c Z own by0 ml ret nm) {x y v : Int32} (hd : decode by0 pc = .ok (.idiv, 1)) (hy : y ≠ 0) (hv : v = x / y) (hp : pc + 1 = pc') (hr : oW p l e R s m args below meth c Z h0 P ds cells slots pc' Ls (.int v :: S)) : oW p l e R s m args below meth c Z h0 P ds cells slots pc Ls (.int y :: .int x :: S) := by
  subst hp hv
  exact oW.pure (fun vm0 k0 hS T locs X t k => XS.idiv X.here K.1.1 rfl (hb K.1.2.2.1 hd) rfl hy k) hr
theorem oW.irem (K : oK p s m meth c Z own by0 ml ret nm) {x y v : Int32} (hd : decode by0 pc = .ok (.irem, 1)) (hy : y ≠ 0) (hv : v = x % y) (hp : pc + 1 = pc') (hr : oW p l e R s m args below meth c Z h0 P ds cells slots pc' Ls (.int v :: S)) : oW p l e R s m args below meth c Z h0 P ds cells slots pc Ls (.int y :: .int x :: S) := by
  subst hp hv
  exact oW.pure (fun vm0 k0 hS T locs X t k => iremM X K.1.1 rfl (hb K.1.2.2.1 hd) rfl hy k) hr
theorem oW.ineg (K : oK p s m meth c Z own by0 ml ret nm) {x v : Int32} (hd : decode by0 pc = .ok (.ineg, 1)) (hv : v = -x) (hp : pc + 1 = pc') (hr : oW p l e R s m args below meth c Z h0 P ds cells slots pc' Ls (.int v :: S)) : oW p l e R s m args below meth c Z h0 P ds cells slots pc Ls (.int x :: S) := by
  subst hp hv
  exact oW.pure (fun vm0 k0 hS T locs X t k => XS.ineg X.here K.1.1 rfl (hb K.1.2.2.1 hd) rfl k) hr
theorem oW.ishl (K : oK p s m meth c Z own by0 ml ret nm) {x y v : Int32} (hd : decode by0 pc = .ok (.ishl, 1)) (hv : v = x <<< (y &&& 31)) (hp : pc + 1 = pc') (hr : oW p l e R s m args below meth c Z h0 P ds cells slots pc' Ls (.int v :: S)) : oW p l e R s m args below meth c Z h0 P ds cells slots pc Ls (.int y :: .int x :: S) := by
  subst hp hv
  exact oW.pure (fun vm0 k0 hS T locs X t k => XT.ishl X.here K.1.1 rfl (hb K.1.2.2.1 hd) rfl k) hr
theorem oW.ishr (K : oK p s m meth c Z own by0 ml ret nm) {x y v : Int32} (hd : decode by0 pc = .ok (.ishr, 1)) (hv : v = x >>> (y &&& 31)) (hp : pc + 1 = pc') (hr : oW p l e R s m args below meth c Z h0 P ds cells slots pc' Ls (.int v :: S)) : oW p l e R s m args below meth c Z h0 P ds cells slots pc Ls (.int y :: .int x :: S) := by
  subst hp hv
  exact oW.pure (fun vm0 k0 hS T locs X t k => XT.ishr X.here K.1.1 rfl (hb K.1.2.2.1 hd) rfl k) hr
theorem oW.iushr (K : oK p s m meth c Z own by0 ml ret nm) {x y v : Int32} (hd : decode by0 pc = .ok (.iushr, 1)) (hv : v = XT.ushr x y) (hp : pc + 1 = pc') (hr : oW p l e R s m args below meth c Z h0 P ds cells slots pc' Ls (.int v :: S)) : oW p l e R s m args below meth c Z h0 P ds cells slots pc Ls (.int y :: .int x :: S) := by
  subst hp hv
  exact oW.pure (fun vm0 k0 hS T locs X t k => XT.iushr X.here K.1.1 rfl (hb K.1.2.2.1 hd) rfl k) hr
theorem oW.iinc (K : oK p s m meth c Z own by0 ml ret nm) {k : Nat} {cst : Int} {x v : Int32} (hd : decode by0 pc = .ok (.iinc k cst, 3)) (hl : Ls[k]? = some (.val (.int x))) (hv : v = x + Int32.ofInt cst) (hs : storeLocals Ls k (.int v) = some Ls') (hp : pc + 3 = pc') (hr : oW p l e R s m args below meth c Z h0 P ds cells slots pc' Ls' (S)) : oW p l e R s m args below meth c Z h0 P ds cells slots pc Ls (S) := by
  subst hp hv
  exact oW.pure (fun vm0 k0 hS T locs X t k => XS.iinc X.here K.1.1 rfl (hb K.1.2.2.1 hd) hl hs k) hr
theorem oW.i2l (K : oK p s m meth c Z own by0 ml ret nm) {x : Int32} {v : Int64} (hd : decode by0 pc = .ok (.i2l, 1)) (hv : v = x.toInt64) (hp : pc + 1 = pc') (hr : oW p l e R s m args below meth c Z h0 P ds cells slots pc' Ls (.long v :: S)) : oW p l e R s m args below meth c Z h0 P ds cells slots pc Ls (.int x :: S) := by
  subst hp hv
  exact oW.pure (fun vm0 k0 hS T locs X t k => XT.i2l X.here K.1.1 rfl (hb K.1.2.2.1 hd) rfl k) hr
theorem oW.l2i (K : oK p s m meth c Z own by0 ml ret nm) {x : Int64} {v : Int32} (hd : decode by0 pc = .ok (.l2i, 1)) (hv : v = x.toInt32) (hp : pc + 1 = pc') (hr : oW p l e R s m args below meth c Z h0 P ds cells slots pc' Ls (.int v :: S)) : oW p l e R s m args below meth c Z h0 P ds cells slots pc Ls (.long x :: S) := by
  subst hp hv
  exact oW.pure (fun vm0 k0 hS T locs X t k => XT.l2i X.here K.1.1 rfl (hb K.1.2.2.1 hd) rfl k) hr
theorem oW.i2s (K : oK p s m meth c Z own by0 ml ret nm) {x v : Int32} (hd : decode by0 pc = .ok (.i2s, 1)) (hv : v = x.toInt16.toInt32) (hp : pc + 1 = pc') (hr : oW p l e R s m args below meth c Z h0 P ds cells slots pc' Ls (.int v :: S)) : oW p l e R s m args below meth c Z h0 P ds cells slots pc Ls (.int x :: S) := by
  subst hp hv
  exact oW.pure (fun vm0 k0 hS T locs X t k => XT.i2s X.here K.1.1 rfl (hb K.1.2.2.1 hd) rfl k) hr
theorem oW.lshl (K : oK p s m meth c Z own by0 ml ret nm) {x v : Int64} {y : Int32} (hd : decode by0 pc = .ok (.lshl, 1)) (hv : v = x <<< (y.toInt64 &&& 63)) (hp : pc + 1 = pc') (hr : oW p l e R s m args below meth c Z h0 P ds cells slots pc' Ls (.long v :: S)) : oW p l e R s m args below meth c Z h0 P ds cells slots pc Ls (.int y :: .long x :: S) := by
  subst hp hv
  exact oW.pure (fun vm0 k0 hS T locs X t k => XT.lshl X.here K.1.1 rfl (hb K.1.2.2.1 hd) rfl k) hr
theorem oW.lshr (K : oK p s m meth c Z own by0 ml ret nm) {x v : Int64} {y : Int32} (hd : decode by0 pc = .ok (.lshr, 1)) (hv : v = x >>> (y.toInt64 &&& 63)) (hp : pc + 1 = pc') (hr : oW p l e R s m args below meth c Z h0 P ds cells slots pc' Ls (.long v :: S)) : oW p l e R s m args below meth c Z h0 P ds cells slots pc Ls (.int y :: .long x :: S) := by
  subst hp hv
  exact oW.pure (fun vm0 k0 hS T locs X t k => XT.lshr X.here K.1.1 rfl (hb K.1.2.2.1 hd) rfl k) hr
theorem oW.lushr (K : oK p s m meth c Z own by0 ml ret nm) {x v : Int64} {y : Int32} (hd : decode by0 pc = .ok (.lushr, 1)) (hv : v = XT.ushrL x y) (hp : pc + 1 = pc') (hr : oW p l e R s m args below meth c Z h0 P ds cells slots pc' Ls (.long v :: S)) : oW p l e R s m args below meth c Z h0 P ds cells slots pc Ls (.int y :: .long x :: S) := by
  subst hp hv
  exact oW.pure (fun vm0 k0 hS T locs X t k => XT.lushr X.here K.1.1 rfl (hb K.1.2.2.1 hd) rfl k) hr
theorem oW.lcmp (K : oK p s m meth c Z own by0 ml ret nm) {x y : Int64} {v : Int32} (hd : decode by0 pc = .ok (.lcmp, 1)) (hv : v = XT.cmpL x y) (hp : pc + 1 = pc') (hr : oW p l e R s m args below meth c Z h0 P ds cells slots pc' Ls (.int v :: S)) : oW p l e R s m args below meth c Z h0 P ds cells slots pc Ls (.long y :: .long x :: S) := by
  subst hp hv
  exact oW.pure (fun vm0 k0 hS T locs X t k => XT.lcmp X.here K.1.1 rfl (hb K.1.2.2.1 hd) rfl k) hr
theorem oW.i2d (K : oK p s m meth c Z own by0 ml ret nm) {x : Int32} {v : UInt64} (hd : decode by0 pc = .ok (.i2d, 1)) (hv : v = FP.i2d x) (hp : pc + 1 = pc') (hr : oW p l e R s m args below meth c Z h0 P ds cells slots pc' Ls (.double v :: S)) : oW p l e R s m args below meth c Z h0 P ds cells slots pc Ls (.int x :: S) := by
  subst hp hv
  exact oW.pure (fun vm0 k0 hS T locs X t k => XS.i2dS X.here K.1.1 rfl (hb K.1.2.2.1 hd) rfl rfl k) hr
theorem oW.l2d (K : oK p s m meth c Z own by0 ml ret nm) {x : Int64} {v : UInt64} (hd : decode by0 pc = .ok (.l2d, 1)) (hv : v = FP.l2d x) (hp : pc + 1 = pc') (hr : oW p l e R s m args below meth c Z h0 P ds cells slots pc' Ls (.double v :: S)) : oW p l e R s m args below meth c Z h0 P ds cells slots pc Ls (.long x :: S) := by
  subst hp hv
  exact oW.pure (fun vm0 k0 hS T locs X t k => XS.l2dS X.here K.1.1 rfl (hb K.1.2.2.1 hd) rfl rfl k) hr
theorem oW.dcmp (K : oK p s m meth c Z own by0 ml ret nm) {o : CmpOp} {x y : UInt64} {v : Int32} (hd : decode by0 pc = .ok (.dcmp o, 1)) (hv : v = cmpValue (FP.dcmp x y) o) (hp : pc + 1 = pc') (hr : oW p l e R s m args below meth c Z h0 P ds cells slots pc' Ls (.int v :: S)) : oW p l e R s m args below meth c Z h0 P ds cells slots pc Ls (.double y :: .double x :: S) := by
  subst hp hv
  exact oW.pure (fun vm0 k0 hS T locs X t k => XS.dcmpS X.here K.1.1 rfl (hb K.1.2.2.1 hd) rfl rfl k) hr
theorem oW.dadd (K : oK p s m meth c Z own by0 ml ret nm) {x y v : UInt64} (hd : decode by0 pc = .ok (.dadd, 1)) (hv : v = FP.dadd x y) (hn : Jvm.Free.Fl.NoNaN64 v) (hp : pc + 1 = pc') (hr : oW p l e R s m args below meth c Z h0 P ds cells slots pc' Ls (.double v :: S)) : oW p l e R s m args below meth c Z h0 P ds cells slots pc Ls (.double y :: .double x :: S) := by
  subst hp hv
  exact oW.pure (fun vm0 k0 hS T locs X t k => XS.daddS X.here K.1.1 rfl (hb K.1.2.2.1 hd) rfl hn rfl k) hr
theorem oW.dsub (K : oK p s m meth c Z own by0 ml ret nm) {x y v : UInt64} (hd : decode by0 pc = .ok (.dsub, 1)) (hv : v = FP.dsub x y) (hn : Jvm.Free.Fl.NoNaN64 v) (hp : pc + 1 = pc') (hr : oW p l e R s m args below meth c Z h0 P ds cells slots pc' Ls (.double v :: S)) : oW p l e R s m args below meth c Z h0 P ds cells slots pc Ls (.double y :: .double x :: S) := by
  subst hp hv
  exact oW.pure (fun vm0 k0 hS T locs X t k => XS.dsubS X.here K.1.1 rfl (hb K.1.2.2.1 hd) rfl hn rfl k) hr
theorem oW.dmul (K : oK p s m meth c Z own by0 ml ret nm) {x y v : UInt64} (hd : decode by0 pc = .ok (.dmul, 1)) (hv : v = FP.dmul x y) (hn : Jvm.Free.Fl.NoNaN64 v) (hp : pc + 1 = pc') (hr : oW p l e R s m args below meth c Z h0 P ds cells slots pc' Ls (.double v :: S)) : oW p l e R s m args below meth c Z h0 P ds cells slots pc Ls (.double y :: .double x :: S) := by
  subst hp hv
  exact oW.pure (fun vm0 k0 hS T locs X t k => XS.dmulS X.here K.1.1 rfl (hb K.1.2.2.1 hd) rfl hn rfl k) hr
theorem oW.ddiv (K : oK p s m meth c Z own by0 ml ret nm) {x y v : UInt64} (hd : decode by0 pc = .ok (.ddiv, 1)) (hv : v = FP.ddiv x y) (hn : Jvm.Free.Fl.NoNaN64 v) (hp : pc + 1 = pc') (hr : oW p l e R s m args below meth c Z h0 P ds cells slots pc' Ls (.double v :: S)) : oW p l e R s m args below meth c Z h0 P ds cells slots pc Ls (.double y :: .double x :: S) := by
  subst hp hv
  exact oW.pure (fun vm0 k0 hS T locs X t k => XS.ddivS X.here K.1.1 rfl (hb K.1.2.2.1 hd) rfl hn rfl k) hr
theorem oW.dup (K : oK p s m meth c Z own by0 ml ret nm) {x : Value} (hd : decode by0 pc = .ok (.dup, 1)) (hc : x.category = 1) (hp : pc + 1 = pc') (hr : oW p l e R s m args below meth c Z h0 P ds cells slots pc' Ls (x :: x :: S)) : oW p l e R s m args below meth c Z h0 P ds cells slots pc Ls (x :: S) := by
  subst hp
  exact oW.pure (fun vm0 k0 hS T locs X t k => XS.dup X.here K.1.1 rfl (hb K.1.2.2.1 hd) rfl hc k) hr
theorem oW.pop (K : oK p s m meth c Z own by0 ml ret nm) {x : Value} (hd : decode by0 pc = .ok (.pop, 1)) (hc : x.category = 1) (hp : pc + 1 = pc') (hr : oW p l e R s m args below meth c Z h0 P ds cells slots pc' Ls (S)) : oW p l e R s m args below meth c Z h0 P ds cells slots pc Ls (x :: S) := by
  subst hp
  exact oW.pure (fun vm0 k0 hS T locs X t k => XT.pop X.here K.1.1 rfl (hb K.1.2.2.1 hd) rfl hc k) hr
theorem oW.dup2 (K : oK p s m meth c Z own by0 ml ret nm) {x y : Value} (hd : decode by0 pc = .ok (.dup2, 1)) (hc : x.category = 1) (hc' : y.category = 1) (hp : pc + 1 = pc') (hr : oW p l e R s m args below meth c Z h0 P ds cells slots pc' Ls (x :: y :: x :: y :: S)) : oW p l e R s m args below meth c Z h0 P ds cells slots pc Ls (x :: y :: S) := by
  subst hp
  exact oW.pure (fun vm0 k0 hS T locs X t k => XT.dup2 X.here K.1.1 rfl (hb K.1.2.2.1 hd) rfl hc hc' k) hr
theorem oW.dupX1 (K : oK p s m meth c Z own by0 ml ret nm) {x y : Value} (hd : decode by0 pc = .ok (.dup_x1, 1)) (hc : x.category = 1) (hc' : y.category = 1) (hp : pc + 1 = pc') (hr : oW p l e R s m args below meth c Z h0 P ds cells slots pc' Ls (x :: y :: x :: S)) : oW p l e R s m args below meth c Z h0 P ds cells slots pc Ls (x :: y :: S) := by
  subst hp
  exact oW.pure (fun vm0 k0 hS T locs X t k => XT.dupX1 X.here K.1.1 rfl (hb K.1.2.2.1 hd) rfl hc hc' k) hr
theorem oW.goto (K : oK p s m meth c Z own by0 ml ret nm) {o : Int} (hd : decode by0 pc = .ok (.goto o, 3)) (ho : 0 ≤ (pc : Int) + o) (hp : ((pc : Int) + o).toNat = pc') (hr : oW p l e R s m args below meth c Z h0 P ds cells slots pc' Ls S) : oW p l e R s m args below meth c Z h0 P ds cells slots pc Ls S :=
  oW.pure (fun vm0 k0 hS T locs X t k => XS.goto X.here K.1.1 rfl rfl (hb K.1.2.2.1 hd) ho hp k) hr
theorem oW.ifc (K : oK p s m meth c Z own by0 ml ret nm) {cd : ClassFile.Cond} {o : Int} {x : Int32} {pc3 : Nat} (hd : decode by0 pc = .ok (.ifCond cd o, 3)) (ho : 0 ≤ (pc : Int) + o) (hp : ((pc : Int) + o).toNat = pc') (h3 : pc + 3 = pc3) (hy : if_icmp.holds cd x 0 = true → oW p l e R s m args below meth c Z h0 P ds cells slots pc' Ls S) (hn : if_icmp.holds cd x 0 = false → oW p l e R s m args below meth c Z h0 P ds cells slots pc3 Ls S) : oW p l e R s m args below meth c Z h0 P ds cells slots pc Ls (.int x :: S) := by
  subst h3
  cases q : if_icmp.holds cd x 0
  · exact oW.pure (fun vm0 k0 hS T locs X t k => XS.ifNo X.here K.1.1 rfl (hb K.1.2.2.1 hd) rfl ((if0 _ _).trans q) k) (hn q)
  · exact oW.pure (fun vm0 k0 hS T locs X t k => XS.ifYes X.here K.1.1 rfl rfl (hb K.1.2.2.1 hd) rfl ((if0 _ _).trans q) ho hp k) (hy q)
theorem oW.icc (K : oK p s m meth c Z own by0 ml ret nm) {cd : ClassFile.Cond} {o : Int} {x y : Int32} {pc3 : Nat} (hd : decode by0 pc = .ok (.if_icmp cd o, 3)) (ho : 0 ≤ (pc : Int) + o) (hp : ((pc : Int) + o).toNat = pc') (h3 : pc + 3 = pc3) (hy : if_icmp.holds cd x y = true → oW p l e R s m args below meth c Z h0 P ds cells slots pc' Ls S) (hn : if_icmp.holds cd x y = false → oW p l e R s m args below meth c Z h0 P ds cells slots pc3 Ls S) : oW p l e R s m args below meth c Z h0 P ds cells slots pc Ls (.int y :: .int x :: S) := by
  subst h3
  cases q : if_icmp.holds cd x y
  · exact oW.pure (fun vm0 k0 hS T locs X t k => XS.icmpNo X.here K.1.1 rfl (hb K.1.2.2.1 hd) rfl q k) (hn q)
  · exact oW.pure (fun vm0 k0 hS T locs X t k => XS.icmpYes X.here K.1.1 rfl rfl (hb K.1.2.2.1 hd) rfl q ho hp k) (hy q)
theorem oH_lt {x y : Int32} : (if_icmp.holds .lt x y = true → x < y) ∧ (if_icmp.holds .lt x y = false → ¬ x < y) := ⟨fun q => Decidable.byContradiction (fun r => absurd q (by rw [(flt r).1]; decide)), fun q r => absurd q (by rw [(tlt r).1]; decide)⟩
theorem oH_ge {x y : Int32} : (if_icmp.holds .ge x y = true → ¬ x < y) ∧ (if_icmp.holds .ge x y = false → x < y) := ⟨fun q r => absurd q (by rw [(tlt r).2.1]; decide), fun q => Decidable.byContradiction (fun r => absurd q (by rw [(flt r).2.1]; decide))⟩
theorem oH_gt {x y : Int32} : (if_icmp.holds .gt x y = true → y < x) ∧ (if_icmp.holds .gt x y = false → ¬ y < x) := ⟨fun q => Decidable.byContradiction (fun r => absurd q (by rw [(flt r).2.2.1]; decide)), fun q r => absurd q (by rw [(tlt r).2.2.1]; decide)⟩
theorem oH_le {x y : Int32} : (if_icmp.holds .le x y = true → ¬ y < x) ∧ (if_icmp.holds .le x y = false → y < x) := ⟨fun q r => absurd q (by rw [(tlt r).2.2.2]; decide), fun q => Decidable.byContradiction (fun r => absurd q (by rw [(flt r).2.2.2]; decide))⟩
theorem oH_eq {x y : Int32} : (if_icmp.holds .eq x y = true → x = y) ∧ (if_icmp.holds .eq x y = false → ¬ x = y) := ⟨fun q => Decidable.byContradiction (fun r => absurd q (by rw [(feq r).1]; decide)), fun q r => absurd q (by rw [(teq r).1]; decide)⟩
theorem oH_ne {x y : Int32} : (if_icmp.holds .ne x y = true → ¬ x = y) ∧ (if_icmp.holds .ne x y = false → x = y) := ⟨fun q r => absurd q (by rw [(teq r).2]; decide), fun q => Decidable.byContradiction (fun r => absurd q (by rw [(feq r).2]; decide))⟩
theorem oW.if_lt (K : oK p s m meth c Z own by0 ml ret nm) {o : Int} {x : Int32} {pc3 : Nat} (hd : decode by0 pc = .ok (.ifCond .lt o, 3)) (ho : 0 ≤ (pc : Int) + o) (hp : ((pc : Int) + o).toNat = pc') (h3 : pc + 3 = pc3) (hy : x < 0 → oW p l e R s m args below meth c Z h0 P ds cells slots pc' Ls S) (hn : ¬ x < 0 → oW p l e R s m args below meth c Z h0 P ds cells slots pc3 Ls S) : oW p l e R s m args below meth c Z h0 P ds cells slots pc Ls (.int x :: S) :=
  oW.ifc K hd ho hp h3 (fun q => hy (oH_lt.1 q)) (fun q => hn (oH_lt.2 q))
theorem oW.icmp_lt (K : oK p s m meth c Z own by0 ml ret nm) {o : Int} {x y : Int32} {pc3 : Nat} (hd : decode by0 pc = .ok (.if_icmp .lt o, 3)) (ho : 0 ≤ (pc : Int) + o) (hp : ((pc : Int) + o).toNat = pc') (h3 : pc + 3 = pc3) (hy : x < y → oW p l e R s m args below meth c Z h0 P ds cells slots pc' Ls S) (hn : ¬ x < y → oW p l e R s m args below meth c Z h0 P ds cells slots pc3 Ls S) : oW p l e R s m args below meth c Z h0 P ds cells slots pc Ls (.int y :: .int x :: S) :=
  oW.icc K hd ho hp h3 (fun q => hy (oH_lt.1 q)) (fun q => hn (oH_lt.2 q))
theorem oW.if_ge (K : oK p s m meth c Z own by0 ml ret nm) {o : Int} {x : Int32} {pc3 : Nat} (hd : decode by0 pc = .ok (.ifCond .ge o, 3)) (ho : 0 ≤ (pc : Int) + o) (hp : ((pc : Int) + o).toNat = pc') (h3 : pc + 3 = pc3) (hy : ¬ x < 0 → oW p l e R s m args below meth c Z h0 P ds cells slots pc' Ls S) (hn : x < 0 → oW p l e R s m args below meth c Z h0 P ds cells slots pc3 Ls S) : oW p l e R s m args below meth c Z h0 P ds cells slots pc Ls (.int x :: S) :=
  oW.ifc K hd ho hp h3 (fun q => hy (oH_ge.1 q)) (fun q => hn (oH_ge.2 q))
theorem oW.icmp_ge (K : oK p s m meth c Z own by0 ml ret nm) {o : Int} {x y : Int32} {pc3 : Nat} (hd : decode by0 pc = .ok (.if_icmp .ge o, 3)) (ho : 0 ≤ (pc : Int) + o) (hp : ((pc : Int) + o).toNat = pc') (h3 : pc + 3 = pc3) (hy : ¬ x < y → oW p l e R s m args below meth c Z h0 P ds cells slots pc' Ls S) (hn : x < y → oW p l e R s m args below meth c Z h0 P ds cells slots pc3 Ls S) : oW p l e R s m args below meth c Z h0 P ds cells slots pc Ls (.int y :: .int x :: S) :=
  oW.icc K hd ho hp h3 (fun q => hy (oH_ge.1 q)) (fun q => hn (oH_ge.2 q))
theorem oW.if_gt (K : oK p s m meth c Z own by0 ml ret nm) {o : Int} {x : Int32} {pc3 : Nat} (hd : decode by0 pc = .ok (.ifCond .gt o, 3)) (ho : 0 ≤ (pc : Int) + o) (hp : ((pc : Int) + o).toNat = pc') (h3 : pc + 3 = pc3) (hy : 0 < x → oW p l e R s m args below meth c Z h0 P ds cells slots pc' Ls S) (hn : ¬ 0 < x → oW p l e R s m args below meth c Z h0 P ds cells slots pc3 Ls S) : oW p l e R s m args below meth c Z h0 P ds cells slots pc Ls (.int x :: S) :=
  oW.ifc K hd ho hp h3 (fun q => hy (oH_gt.1 q)) (fun q => hn (oH_gt.2 q))
theorem oW.icmp_gt (K : oK p s m meth c Z own by0 ml ret nm) {o : Int} {x y : Int32} {pc3 : Nat} (hd : decode by0 pc = .ok (.if_icmp .gt o, 3)) (ho : 0 ≤ (pc : Int) + o) (hp : ((pc : Int) + o).toNat = pc') (h3 : pc + 3 = pc3) (hy : y < x → oW p l e R s m args below meth c Z h0 P ds cells slots pc' Ls S) (hn : ¬ y < x → oW p l e R s m args below meth c Z h0 P ds cells slots pc3 Ls S) : oW p l e R s m args below meth c Z h0 P ds cells slots pc Ls (.int y :: .int x :: S) :=
  oW.icc K hd ho hp h3 (fun q => hy (oH_gt.1 q)) (fun q => hn (oH_gt.2 q))
theorem oW.if_le (K : oK p s m meth c Z own by0 ml ret nm) {o : Int} {x : Int32} {pc3 : Nat} (hd : decode by0 pc = .ok (.ifCond .le o, 3)) (ho : 0 ≤ (pc : Int) + o) (hp : ((pc : Int) + o).toNat = pc') (h3 : pc + 3 = pc3) (hy : ¬ 0 < x → oW p l e R s m args below meth c Z h0 P ds cells slots pc' Ls S) (hn : 0 < x → oW p l e R s m args below meth c Z h0 P ds cells slots pc3 Ls S) : oW p l e R s m args below meth c Z h0 P ds cells slots pc Ls (.int x :: S) :=
  oW.ifc K hd ho hp h3 (fun q => hy (oH_le.1 q)) (fun q => hn (oH_le.2 q))
theorem oW.icmp_le (K : oK p s m meth c Z own by0 ml ret nm) {o : Int} {x y : Int32} {pc3 : Nat} (hd : decode by0 pc = .ok (.if_icmp .le o, 3)) (ho : 0 ≤ (pc : Int) + o) (hp : ((pc : Int) + o).toNat = pc') (h3 : pc + 3 = pc3) (hy : ¬ y < x → oW p l e R s m args below meth c Z h0 P ds cells slots pc' Ls S) (hn : y < x → oW p l e R s m args below meth c Z h0 P ds cells slots pc3 Ls S) : oW p l e R s m args below meth c Z h0 P ds cells slots pc Ls (.int y :: .int x :: S) :=
  oW.icc K hd ho hp h3 (fun q => hy (oH_le.1 q)) (fun q => hn (oH_le.2 q))
theorem oW.if_eq (K : oK p s m meth c Z own by0 ml ret nm) {o : Int} {x : Int32} {pc3 : Nat} (hd : decode by0 pc = .ok (.ifCond .eq o, 3)) (ho : 0 ≤ (pc : Int) + o) (hp : ((pc : Int) + o).toNat = pc') (h3 : pc + 3 = pc3) (hy : x = 0 → oW p l e R s m args below meth c Z h0 P ds cells slots pc' Ls S) (hn : ¬ x = 0 → oW p l e R s m args below meth c Z h0 P ds cells slots pc3 Ls S) : oW p l e R s m args below meth c Z h0 P ds cells slots pc Ls (.int x :: S) :=
  oW.ifc K hd ho hp h3 (fun q => hy (oH_eq.1 q)) (fun q => hn (oH_eq.2 q))
theorem oW.icmp_eq (K : oK p s m meth c Z own by0 ml ret nm) {o : Int} {x y : Int32} {pc3 : Nat} (hd : decode by0 pc = .ok (.if_icmp .eq o, 3)) (ho : 0 ≤ (pc : Int) + o) (hp : ((pc : Int) + o).toNat = pc') (h3 : pc + 3 = pc3) (hy : x = y → oW p l e R s m args below meth c Z h0 P ds cells slots pc' Ls S) (hn : ¬ x = y → oW p l e R s m args below meth c Z h0 P ds cells slots pc3 Ls S) : oW p l e R s m args below meth c Z h0 P ds cells slots pc Ls (.int y :: .int x :: S) :=
  oW.icc K hd ho hp h3 (fun q => hy (oH_eq.1 q)) (fun q => hn (oH_eq.2 q))
theorem oW.if_ne (K : oK p s m meth c Z own by0 ml ret nm) {o : Int} {x : Int32} {pc3 : Nat} (hd : decode by0 pc = .ok (.ifCond .ne o, 3)) (ho : 0 ≤ (pc : Int) + o) (hp : ((pc : Int) + o).toNat = pc') (h3 : pc + 3 = pc3) (hy : ¬ x = 0 → oW p l e R s m args below meth c Z h0 P ds cells slots pc' Ls S) (hn : x = 0 → oW p l e R s m args below meth c Z h0 P ds cells slots pc3 Ls S) : oW p l e R s m args below meth c Z h0 P ds cells slots pc Ls (.int x :: S) :=
  oW.ifc K hd ho hp h3 (fun q => hy (oH_ne.1 q)) (fun q => hn (oH_ne.2 q))
theorem oW.icmp_ne (K : oK p s m meth c Z own by0 ml ret nm) {o : Int} {x y : Int32} {pc3 : Nat} (hd : decode by0 pc = .ok (.if_icmp .ne o, 3)) (ho : 0 ≤ (pc : Int) + o) (hp : ((pc : Int) + o).toNat = pc') (h3 : pc + 3 = pc3) (hy : ¬ x = y → oW p l e R s m args below meth c Z h0 P ds cells slots pc' Ls S) (hn : x = y → oW p l e R s m args below meth c Z h0 P ds cells slots pc3 Ls S) : oW p l e R s m args below meth c Z h0 P ds cells slots pc Ls (.int y :: .int x :: S) :=
  oW.icc K hd ho hp h3 (fun q => hy (oH_ne.1 q)) (fun q => hn (oH_ne.2 q))
theorem oW.ifnullNo (K : oK p s m meth c Z own by0 ml ret nm) {o : Int} {b : Addr} (hd : decode by0 pc = .ok (.ifnull o, 3)) (hp : pc + 3 = pc') (hr : oW p l e R s m args below meth c Z h0 P ds cells slots pc' Ls S) : oW p l e R s m args below meth c Z h0 P ds cells slots pc Ls (.ref b :: S) := by
  subst hp
  exact oW.pure (fun vm0 k0 hS T locs X t k => XS.ifnullNo X.here K.1.1 rfl (hb K.1.2.2.1 hd) rfl k) hr
theorem oW.ifnullYes (K : oK p s m meth c Z own by0 ml ret nm) {o : Int} (hd : decode by0 pc = .ok (.ifnull o, 3)) (ho : 0 ≤ (pc : Int) + o) (hp : ((pc : Int) + o).toNat = pc') (hr : oW p l e R s m args below meth c Z h0 P ds cells slots pc' Ls S) : oW p l e R s m args below meth c Z h0 P ds cells slots pc Ls (.null :: S) :=
  oW.pure (fun vm0 k0 hS T locs X t k => XS.ifnullYes X.here K.1.1 rfl rfl (hb K.1.2.2.1 hd) rfl ho hp k) hr
theorem oW.ifnonnullYes (K : oK p s m meth c Z own by0 ml ret nm) {o : Int} {b : Addr} (hd : decode by0 pc = .ok (.ifnonnull o, 3)) (ho : 0 ≤ (pc : Int) + o) (hp : ((pc : Int) + o).toNat = pc') (hr : oW p l e R s m args below meth c Z h0 P ds cells slots pc' Ls S) : oW p l e R s m args below meth c Z h0 P ds cells slots pc Ls (.ref b :: S) :=
  oW.pure (fun vm0 k0 hS T locs X t k => XT.ifnonnullYes X.here K.1.1 rfl rfl (hb K.1.2.2.1 hd) rfl ho hp k) hr
theorem oW.ldcI (K : oK p s m meth c Z own by0 ml ret nm) {index : Nat} {v : Int32} (w : (Jvm.Cond.constant own index v).before a0 Z = true) (hd : decode by0 pc = .ok (.ldc index, 2)) (hp : pc + 2 = pc') (hr : oW p l e R s m args below meth c Z h0 P ds cells slots pc' Ls (.int v :: S)) : oW p l e R s m args below meth c Z h0 P ds cells slots pc Ls S := by
  subst hp
  exact oW.pure (fun vm0 k0 hS T locs X t k => X.ldcInt K.1.1 (K.since hS).2.1 (mv (K.since hS).1.2.1 w) (g := mkF m pc Ls S) rfl (hb K.1.2.2.1 hd) t k) hr
theorem oW.ldc2D (K : oK p s m meth c Z own by0 ml ret nm) {index : Nat} {v : UInt64} (w : (Jvm.Cond.constantDouble own index v).before a0 Z = true) (hd : decode by0 pc = .ok (.ldc2_w index, 3)) (hp : pc + 3 = pc') (hr : oW p l e R s m args below meth c Z h0 P ds cells slots pc' Ls (.double v :: S)) : oW p l e R s m args below meth c Z h0 P ds cells slots pc Ls S := by
  subst hp
  exact oW.pure (fun vm0 k0 hS T locs X t k => X.ldc2DoubleC K.1.1 (K.since hS).2.1 (mv (K.since hS).1.2.1 w) (g := mkF m pc Ls S) rfl (hb K.1.2.2.1 hd) t k) hr
theorem oW.ldc2L (K : oK p s m meth c Z own by0 ml ret nm) {index : Nat} {v : Int64} (w : (Jvm.Cond.constantLong own index v).before a0 Z = true) (hd : decode by0 pc = .ok (.ldc2_w index, 3)) (hp : pc + 3 = pc') (hr : oW p l e R s m args below meth c Z h0 P ds cells slots pc' Ls (.long v :: S)) : oW p l e R s m args below meth c Z h0 P ds cells slots pc Ls S := by
  subst hp
  exact oW.pure (fun vm0 k0 hS T locs X t k => X.ldc2Long K.1.1 (K.since hS).2.1 (mv (K.since hS).1.2.1 w) (g := mkF m pc Ls S) rfl (hb K.1.2.2.1 hd) t k) hr
theorem oLen {vs : List Value} {j : Int32} {k : Nat} {v : Value} {c : Cell} (hj : j = Int32.ofNat k) (hk : k < 2 ^ 31) (hv : vs[k]? = some v) (hs : c.slots = vs.toArray) : ¬ (j < 0 ∨ c.slots.size ≤ j.toNatClampNeg) ∧ c.slots[j.toNatClampNeg]? = some v := by
  subst hj
  have e : (Int32.ofNat k).toNatClampNeg = k := Int32.toNatClampNeg_ofNat_of_lt hk
  have l := (List.getElem?_eq_some_iff.mp hv).1
  rw [e, hs]
  refine ⟨fun q => q.elim (Int32.ofNat_not_neg hk) (fun r => by simp at r; omega), by simpa using hv⟩
theorem oW.iaload (K : oK p s m meth c Z own by0 ml ret nm) {i k : Nat} {a : Addr} {vs : List Value} {j : Int32} {v : Value} (hd : decode by0 pc = .ok (.iaload, 1)) (hi : ds[i]? = some (a, .inl (.int, vs))) (hj : j = Int32.ofNat k) (hk : k < 2 ^ 31) (hv : vs[k]? = some v) (hp : pc + 1 = pc') (hr : oW p l e R s m args below meth c Z h0 P ds cells slots pc' Ls (v :: S)) : oW p l e R s m args below meth c Z h0 P ds cells slots pc Ls (.int j :: .ref a :: S) := by
  subst hp
  rintro T ⟨vm0, k0, locs, X, hS, hK0, N, M⟩
  replace K := K.since hS
  obtain ⟨cl, A, hs⟩ := (M.2.2 i _ hi).2
  obtain ⟨q1, q2⟩ := oLen hj hk hv hs
  exact oW.ends (fun t k => X.iaload K.1.1 A.1 (State.isArrayOf_alike K.1.2.1.alike A.2.1) A.2.2 q1 q2 (g := mkF m pc Ls (.int j :: .ref a :: S)) rfl rfl (hb K.1.2.2.1 hd) t k) (hr T ⟨vm0, k0, locs, X, hS, hK0, N, M⟩)
theorem oW.daload (K : oK p s m meth c Z own by0 ml ret nm) {i k : Nat} {a : Addr} {vs : List Value} {j : Int32} {v : Value} (hd : decode by0 pc = .ok (.daload, 1)) (hi : ds[i]? = some (a, .inl (.double, vs))) (hj : j = Int32.ofNat k) (hk : k < 2 ^ 31) (hv : vs[k]? = some v) (hp : pc + 1 = pc') (hr : oW p l e R s m args below meth c Z h0 P ds cells slots pc' Ls (v :: S)) : oW p l e R s m args below meth c Z h0 P ds cells slots pc Ls (.int j :: .ref a :: S) := by
  subst hp
  rintro T ⟨vm0, k0, locs, X, hS, hK0, N, M⟩
  replace K := K.since hS
  obtain ⟨cl, A, hs⟩ := (M.2.2 i _ hi).2
  obtain ⟨q1, q2⟩ := oLen hj hk hv hs
  exact oW.ends (fun t k => X.daload K.1.1 A.1 (State.isArrayOf_alike K.1.2.1.alike A.2.1) A.2.2 q1 q2 (g := mkF m pc Ls (.int j :: .ref a :: S)) rfl rfl (hb K.1.2.2.1 hd) t k) (hr T ⟨vm0, k0, locs, X, hS, hK0, N, M⟩)
theorem oW.laload (K : oK p s m meth c Z own by0 ml ret nm) {i k : Nat} {a : Addr} {vs : List Value} {j : Int32} {v : Value} (hd : decode by0 pc = .ok (.laload, 1)) (hi : ds[i]? = some (a, .inl (.long, vs))) (hj : j = Int32.ofNat k) (hk : k < 2 ^ 31) (hv : vs[k]? = some v) (hp : pc + 1 = pc') (hr : oW p l e R s m args below meth c Z h0 P ds cells slots pc' Ls (v :: S)) : oW p l e R s m args below meth c Z h0 P ds cells slots pc Ls (.int j :: .ref a :: S) := by
  subst hp
  rintro T ⟨vm0, k0, locs, X, hS, hK0, N, M⟩
  replace K := K.since hS
  obtain ⟨cl, A, hs⟩ := (M.2.2 i _ hi).2
  obtain ⟨q1, q2⟩ := oLen hj hk hv hs
  exact oW.ends (fun t k => X.laload K.1.1 A.1 (State.isArrayOf_alike K.1.2.1.alike A.2.1) A.2.2 q1 q2 (g := mkF m pc Ls (.int j :: .ref a :: S)) rfl rfl (hb K.1.2.2.1 hd) t k) (hr T ⟨vm0, k0, locs, X, hS, hK0, N, M⟩)
theorem oW.iastore (K : oK p s m meth c Z own by0 ml ret nm) {i k : Nat} {a : Addr} {vs : List Value} {j : Int32} {x : Int32} (hd : decode by0 pc = .ok (.iastore, 1)) (hi : ds[i]? = some (a, .inl (.int, vs))) (hj : j = Int32.ofNat k) (hk : k < 2 ^ 31) (hl : k < vs.length) (hds : ds.set i (a, .inl (.int, vs.set k (.int x))) = ds') (hp : pc + 1 = pc') (hr : oW p l e R s m args below meth c Z h0 P ds' cells slots pc' Ls S) : oW p l e R s m args below meth c Z h0 P ds cells slots pc Ls (.int x :: .int j :: .ref a :: S) := by
  subst hp hds
  rintro T ⟨vm0, k0, locs, X, hS, hK0, N, M⟩
  replace K := K.since hS
  obtain ⟨ha, cl, A, hs⟩ := M.2.2 i _ hi
  obtain ⟨q1, q2⟩ := oLen hj hk (List.getElem?_eq_getElem hl) hs
  obtain ⟨T', h', X', e', Wr', st⟩ := stI X K.1.1 K.1.2.1 rfl A (x := x) q1 (g := mkF m pc Ls (.int x :: .int j :: .ref a :: S)) rfl rfl (hb K.1.2.2.1 hd)
  have ek : j.toNatClampNeg = k := by subst hj; exact Int32.toNatClampNeg_ofNat_of_lt hk
  refine oW.ends st (hr T' ⟨vm0, k0, _, X', hS, by rw [e', Wr'.size]; exact hK0, Fr.snoc X' N ha, ?_⟩)
  rw [e']
  refine M.put hi Wr' ⟨_, A.same Wr', ?_⟩
  rw [ek]; simp [Cell.setSlot, hs]
theorem oW.dastore (K : oK p s m meth c Z own by0 ml ret nm) {i k : Nat} {a : Addr} {vs : List Value} {j : Int32} {x : UInt64} (hd : decode by0 pc = .ok (.dastore, 1)) (hi : ds[i]? = some (a, .inl (.double, vs))) (hj : j = Int32.ofNat k) (hk : k < 2 ^ 31) (hl : k < vs.length) (hds : ds.set i (a, .inl (.double, vs.set k (.double x))) = ds') (hp : pc + 1 = pc') (hr : oW p l e R s m args below meth c Z h0 P ds' cells slots pc' Ls S) : oW p l e R s m args below meth c Z h0 P ds cells slots pc Ls (.double x :: .int j :: .ref a :: S) := by
  subst hp hds
  rintro T ⟨vm0, k0, locs, X, hS, hK0, N, M⟩
  replace K := K.since hS
  obtain ⟨ha, cl, A, hs⟩ := M.2.2 i _ hi
  obtain ⟨q1, q2⟩ := oLen hj hk (List.getElem?_eq_getElem hl) hs
  obtain ⟨T', h', X', e', Wr', st⟩ := stD X K.1.1 K.1.2.1 rfl A (x := x) q1 (g := mkF m pc Ls (.double x :: .int j :: .ref a :: S)) rfl rfl (hb K.1.2.2.1 hd)
  have ek : j.toNatClampNeg = k := by subst hj; exact Int32.toNatClampNeg_ofNat_of_lt hk
  refine oW.ends st (hr T' ⟨vm0, k0, _, X', hS, by rw [e', Wr'.size]; exact hK0, Fr.snoc X' N ha, ?_⟩)
  rw [e']
  refine M.put hi Wr' ⟨_, A.same Wr', ?_⟩
  rw [ek]; simp [Cell.setSlot, hs]
theorem oW.lastore (K : oK p s m meth c Z own by0 ml ret nm) {i k : Nat} {a : Addr} {vs : List Value} {j : Int32} {x : Int64} (hd : decode by0 pc = .ok (.lastore, 1)) (hi : ds[i]? = some (a, .inl (.long, vs))) (hj : j = Int32.ofNat k) (hk : k < 2 ^ 31) (hl : k < vs.length) (hds : ds.set i (a, .inl (.long, vs.set k (.long x))) = ds') (hp : pc + 1 = pc') (hr : oW p l e R s m args below meth c Z h0 P ds' cells slots pc' Ls S) : oW p l e R s m args below meth c Z h0 P ds cells slots pc Ls (.long x :: .int j :: .ref a :: S) := by
  subst hp hds
  rintro T ⟨vm0, k0, locs, X, hS, hK0, N, M⟩
  replace K := K.since hS
  obtain ⟨ha, cl, A, hs⟩ := M.2.2 i _ hi
  obtain ⟨q1, q2⟩ := oLen hj hk (List.getElem?_eq_getElem hl) hs
  obtain ⟨T', h', X', e', Wr', st⟩ := stJ X K.1.1 K.1.2.1 rfl A (x := x) q1 (g := mkF m pc Ls (.long x :: .int j :: .ref a :: S)) rfl rfl (hb K.1.2.2.1 hd)
  have ek : j.toNatClampNeg = k := by subst hj; exact Int32.toNatClampNeg_ofNat_of_lt hk
  refine oW.ends st (hr T' ⟨vm0, k0, _, X', hS, by rw [e', Wr'.size]; exact hK0, Fr.snoc X' N ha, ?_⟩)
  rw [e']
  refine M.put hi Wr' ⟨_, A.same Wr', ?_⟩
  rw [ek]; simp [Cell.setSlot, hs]
theorem oW.alen (K : oK p s m meth c Z own by0 ml ret nm) {i : Nat} {a : Addr} {ty : FieldType} {vs : List Value} {v : Int32} (hd : decode by0 pc = .ok (.arraylength, 1)) (hi : ds[i]? = some (a, .inl (ty, vs))) (hv : v = Int32.ofNat vs.length) (hp : pc + 1 = pc') (hr : oW p l e R s m args below meth c Z h0 P ds cells slots pc' Ls (.int v :: S)) : oW p l e R s m args below meth c Z h0 P ds cells slots pc Ls (.ref a :: S) := by
  subst hp
  rintro T ⟨vm0, k0, locs, X, hS, hK0, N, M⟩
  replace K := K.since hS
  obtain ⟨cl, A, hs⟩ := (M.2.2 i _ hi).2
  have ev : v = cl.slots.size.toInt32 := by rw [hv, hs]; simp
  subst ev
  exact oW.ends (fun t k => X.arraylength K.1.1 A.1 (State.isArrayOf_alike K.1.2.1.alike A.2.1) (g := mkF m pc Ls (.ref a :: S)) rfl rfl (hb K.1.2.2.1 hd) t k) (hr T ⟨vm0, k0, locs, X, hS, hK0, N, M⟩)
theorem oW.newarr (K : oK p s m meth c Z own by0 ml ret nm) {aty : ArrayType} {j : Int32} {n : Nat} (w : (Jvm.Cond.arrayClass (newarray.typeOf aty)).before a0 Z = true) (hd : decode by0 pc = .ok (.newarray aty, 2)) (hj : j = Int32.ofNat n) (hn : n < 2 ^ 31) (hb8 : n * 8 ≤ 536870912) (hc : cells + 1 ≤ R.cells) (hs : slots + n ≤ R.slots) {cells' slots' : Nat} (hc' : cells + 1 = cells') (hs' : slots + n = slots') {dsf : Addr → oDs} (hds : ∀ a, ds ++ [(a, .inl (newarray.typeOf aty, List.replicate n (defaultValue (newarray.typeOf aty))))] = dsf a) (hp : pc + 2 = pc')
    (hr : ∀ a : Addr, h0.size ≤ a → oW p l e R s m args below meth c Z h0 P (dsf a) cells' slots' pc' Ls (.ref a :: S)) : oW p l e R s m args below meth c Z h0 P ds cells slots pc Ls (.int j :: S) := by
  subst hp hc' hs'
  rintro T ⟨vm0, k0, locs, X, hS, hK0, N, M⟩
  replace K := K.since hS
  have ej : j.toNatClampNeg = n := by subst hj; exact Int32.toNatClampNeg_ofNat_of_lt hn
  obtain ⟨T', h', k, X', e', E', A', st⟩ := newP X K.1.1 K.1.2.1 w rfl (g := mkF m pc Ls (.int j :: S)) rfl (hb K.1.2.2.1 hd) rfl (by subst hj; exact Int32.ofNat_not_neg hn) (cap := n) (Nat.le_of_eq ej) hb8 hc hs
  refine oW.ends st (hr T.heap.size M.1.1 T' ⟨vm0, k0, _, X', hS, by rw [e']; exact Nat.le_trans hK0 E'.1, N, ?_⟩)
  rw [e', ← hds]
  refine M.push E' ⟨_, A', ?_⟩
  simp [newA, ej]
theorem oW.new (K : oK p s m meth c Z own by0 ml ret nm) {index n : Nat} {C : String} {fs : List (String × String × String × Value)} (w : (Jvm.Cond.classLink own index C).before a0 Z = true) (wi : (Jvm.Cond.instantiable C n).before a0 Z = true) (wz : (Jvm.Cond.initialized C).before a0 Z = true) (hL : ∀ f ∈ fs, Laid Z a0 C f.1 f.2.1 f.2.2.1 ∧ ∃ t, parseFieldDescriptor f.2.2.1 = some t ∧ f.2.2.2 = defaultValue t) (hd : decode by0 pc = .ok (.new index, 3)) (hc : cells + 1 ≤ R.cells) (hs : slots + n ≤ R.slots) {cells' slots' : Nat} (hc' : cells + 1 = cells') (hs' : slots + n = slots') {dsf : Addr → oDs} (hds : ∀ a, ds ++ [(a, .inr (C, fs))] = dsf a) (hp : pc + 3 = pc')
    (hr : ∀ a : Addr, h0.size ≤ a → oW p l e R s m args below meth c Z h0 P (dsf a) cells' slots' pc' Ls (.ref a :: S)) : oW p l e R s m args below meth c Z h0 P ds cells slots pc Ls S := by
  subst hp hc' hs'
  rintro T ⟨vm0, k0, locs, X, hS, hK0, N, M⟩
  replace K := K.since hS
  obtain ⟨T', h', X', e', E', A', D', -, st⟩ := newO X K.1.1 K.1.2.1 K.2.1 w wi wz rfl (g := mkF m pc Ls S) rfl (hb K.1.2.2.1 hd) hc hs
  refine oW.ends st (hr T.heap.size M.1.1 T' ⟨vm0, k0, _, X', hS, by rw [e']; exact Nat.le_trans hK0 E'.1, N, ?_⟩)
  rw [e', ← hds]
  refine M.push E' ⟨A', fun f hf => ?_⟩
  obtain ⟨L, t, h1, h2⟩ := hL f hf
  rw [h2]; exact D' L h1
theorem oW.getf (K : oK p s m meth c Z own by0 ml ret nm) {index i q : Nat} {a : Addr} {C O n d : String} {fs : List (String × String × String × Value)} {v : Value} (w : (Jvm.Cond.fieldLink own index O n d).before a0 Z = true) (hd : decode by0 pc = .ok (.getfield index, 3)) (hi : ds[i]? = some (a, .inr (C, fs))) (hf : fs[q]? = some (O, n, d, v)) (hp : pc + 3 = pc') (hr : oW p l e R s m args below meth c Z h0 P ds cells slots pc' Ls (v :: S)) : oW p l e R s m args below meth c Z h0 P ds cells slots pc Ls (.ref a :: S) := by
  subst hp
  rintro T ⟨vm0, k0, locs, X, hS, hK0, N, M⟩
  replace K := K.since hS
  obtain ⟨ha, hE, hF⟩ := M.2.2 i _ hi
  obtain ⟨T', X', e', st⟩ := getF X K.1.1 K.1.2.1 K.2.1 (host := "") (Or.inl w) Via.refl rfl (hF _ (List.mem_of_getElem? hf)) (g := mkF m pc Ls (.ref a :: S)) rfl rfl (hb K.1.2.2.1 hd)
  exact oW.ends st (hr T' ⟨vm0, k0, _, X', hS, by rw [e']; exact hK0, N, by rw [e']; exact M⟩)
theorem oW.putf (K : oK p s m meth c Z own by0 ml ret nm) {index i q kk : Nat} {a : Addr} {C O n d : String} {fs : List (String × String × String × Value)} {v old : Value} {ty : FieldType} (w : (Jvm.Cond.fieldLink own index O n d).before a0 Z = true) (L : (Jvm.Cond.lays C O n d).before a0 Z = true ∨ ((Jvm.Cond.laysFinal C O n d).before a0 Z = true ∧ own = O ∧ nm = "<init>")) (wi : (Jvm.Cond.instantiable C kk).before a0 Z = true) (hap : oApart Z fs) (hd : decode by0 pc = .ok (.putfield index, 3)) (hi : ds[i]? = some (a, .inr (C, fs))) (hf : fs[q]? = some (O, n, d, old)) (hty : parseFieldDescriptor d = some ty) (hn : narrow ty v = v) (hfit : fits ty v = true) (hds : ds.set i (a, .inr (C, fs.set q (O, n, d, v))) = ds') (hp : pc + 3 = pc') (hr : oW p l e R s m args below meth c Z h0 P ds' cells slots pc' Ls S) : oW p l e R s m args below meth c Z h0 P ds cells slots pc Ls (v :: .ref a :: S) := by
  subst hp hds
  rintro T ⟨vm0, k0, locs, X, hS, hK0, N, M⟩
  replace K := K.since hS
  obtain ⟨ha, hE, hF⟩ := M.2.2 i _ hi
  have hFq := hF _ (List.mem_of_getElem? hf)
  obtain ⟨T', h', X', e', Wr', st⟩ := putF X K.1.1 K.1.2.1 K.2.1 (host := "") (Or.inl w) Via.refl rfl hFq hE (L.imp id fun r => ⟨r.1, r.2.1, K.2.2.2.2.trans r.2.2⟩) wi hty hn hfit (g := mkF m pc Ls (v :: .ref a :: S)) rfl rfl (hb K.1.2.2.1 hd)
  refine oW.ends st (hr T' ⟨vm0, k0, _, X', hS, by rw [e', Wr'.size]; exact hK0, Fr.snoc X' N ha, ?_⟩)
  rw [e']
  refine M.put hi Wr' ⟨hE.wr Wr', fun f hf' => ?_⟩
  obtain ⟨r, hr'⟩ := List.getElem?_of_mem hf'
  rw [List.getElem?_set] at hr'
  split at hr'
  · rename_i er
    subst er
    rw [if_pos (List.getElem?_eq_some_iff.mp hf).1] at hr'
    cases hr'
    exact hFq.same Wr'
  · rename_i er
    have hh := hap r q f (O, n, d, old) (Ne.symm er) hr' hf
    exact (hF f (List.mem_of_getElem? hr')).other Wr' (Or.inr hh)
theorem oW.getst (K : oK p s m meth c Z own by0 ml ret nm) {index : Nat} {O n d : String} {v : Value} (w : (Jvm.Cond.fieldLink own index O n d).before a0 Z = true) (F : Sta Z h0 O n d v) (hd : decode by0 pc = .ok (.getstatic index, 3)) (hp : pc + 3 = pc') (hr : oW p l e R s m args below meth c Z h0 P ds cells slots pc' Ls (v :: S)) : oW p l e R s m args below meth c Z h0 P ds cells slots pc Ls S := by
  subst hp
  rintro T ⟨vm0, k0, locs, X, hS, hK0, N, M⟩
  replace K := K.since hS
  obtain ⟨T', X', e', st⟩ := getS2 X K.1.1 K.1.2.1 K.2.1 (host := "") (Or.inl w) Via.refl rfl (F.ext M.1) (g := mkF m pc Ls S) rfl (hb K.1.2.2.1 hd)
  exact oW.ends st (hr T' ⟨vm0, k0, _, X', hS, by rw [e']; exact hK0, N, by rw [e']; exact M⟩)
theorem oW.initO (K : oK p s m meth c Z own by0 ml ret nm) {idx : Nat} {a : Addr} {W : Nat} (w1 : (Jvm.Cond.methodLink own idx Lib.objectInit).before a0 Z = true) (w2 : (Jvm.Cond.instanceMethod Lib.objectInit).before a0 Z = true) (w3 : (Jvm.Cond.code Lib.objectInit ⟨#[0xb1]⟩ 1 none).before a0 Z = true) (hd : decode by0 pc = .ok (.invokespecial idx, 3)) (hsz : Ls.size = ml) (hf : 1 ≤ R.frames) (hW : (S.map fun v => v.category).sum ≤ W) (hl : W + 12 ≤ R.locals) (hp : pc + 3 = pc') (hr : oW p l e R s m args below meth c Z h0 P ds cells slots pc' Ls S) : oW p l e R s m args below meth c Z h0 P ds cells slots pc Ls (.ref a :: S) := by
  subst hp
  rintro T ⟨vm0, k0, locs, X, hS, hK0, N, M⟩
  replace K := K.since hS
  obtain ⟨T', X', e', st⟩ := Jvm.RoadKit.initO X K.1.1 K.1.2.1 K.2.1 w1 w2 w3 rfl (g := mkF m pc Ls (.ref a :: S)) rfl (hsz.trans K.1.2.2.2.symm) rfl (hb K.1.2.2.1 hd) hf (W := W) (by show 2 * 0 + _ ≤ _; omega) hl
  exact oW.ends st (hr T' ⟨vm0, k0, _, X', hS, by rw [e']; exact hK0, N, by rw [e']; exact M⟩)
theorem oW.leave (K : oK p s m meth c Z own by0 ml ret nm) {v : Option Value} (hv : ret = none → v = none) (hc : cells ≤ R.cells) (hs : slots ≤ R.slots) (hP : P v ds)
    (st : ∀ (vm0 : Vm) (T : State) (locs : List Loc) (fs : List Frame), Stand p l e R (s.setVm vm0) m args below meth c T locs cells slots → (∀ (f : JFrame) (acts : List Action), f.method = m → f.locked = none → f.entered = [] → (doReturn e (T.setTop f) acts v).1 = T.setFrames fs) → Steps p.tables e below (T.setTop (mkF m pc Ls S)) (T.setFrames fs)) : oW p l e R s m args below meth c Z h0 P ds cells slots pc Ls S := by
  rintro T ⟨vm0, k0, locs, X, hS, hK0, N, M⟩
  obtain ⟨fs, hr, hrun, hended, hW⟩ := X.leaveW hS hK0 (v := v) (fun h => hv (K.2.2.1.symm.trans h)) K.2.2.2.1
  exact ⟨_, _, st vm0 T locs fs X hr, hrun, hended, v, locs, rfl, ⟨N, ds, hP, M⟩, hW.1, hW.2.1, hW.2.2.1, hW.2.2.2.mono hc hs⟩
theorem oW.retB (K : oK p s m meth c Z own by0 ml ret nm) {z : Int32} (hret : ret = some .boolean) (hd : decode by0 pc = .ok (.ireturn, 1)) (hc : cells ≤ R.cells) (hs : slots ≤ R.slots) (hP : P (some (.int (nar .boolean z))) ds) : oW p l e R s m args below meth c Z h0 P ds cells slots pc Ls (.int z :: S) :=
  oW.leave K (by rw [hret]; intro h; cases h) hc hs hP fun vm0 T locs fs X hr => retN X K.1.1 (t := .boolean) (K.2.2.1.trans hret) (Or.inl rfl) (hb K.1.2.2.1 hd) hr
theorem oW.retI (K : oK p s m meth c Z own by0 ml ret nm) {z : Int32} (hret : ret = some .int) (hd : decode by0 pc = .ok (.ireturn, 1)) (hc : cells ≤ R.cells) (hs : slots ≤ R.slots) (hP : P (some (.int z)) ds) : oW p l e R s m args below meth c Z h0 P ds cells slots pc Ls (.int z :: S) :=
  oW.leave K (by rw [hret]; intro h; cases h) hc hs hP fun vm0 T locs fs X hr => retOut X K.1.1 (K.2.2.1.trans hret) rfl (Or.inl ⟨rfl, Or.inl rfl, _, rfl⟩) (hb K.1.2.2.1 hd) hr
theorem oW.retJ (K : oK p s m meth c Z own by0 ml ret nm) {z : Int64} (hret : ret = some .long) (hd : decode by0 pc = .ok (.lreturn, 1)) (hc : cells ≤ R.cells) (hs : slots ≤ R.slots) (hP : P (some (.long z)) ds) : oW p l e R s m args below meth c Z h0 P ds cells slots pc Ls (.long z :: S) :=
  oW.leave K (by rw [hret]; intro h; cases h) hc hs hP fun vm0 T locs fs X hr => retOut X K.1.1 (K.2.2.1.trans hret) rfl (Or.inr (Or.inl ⟨rfl, rfl, _, rfl⟩)) (hb K.1.2.2.1 hd) hr
theorem oW.retD (K : oK p s m meth c Z own by0 ml ret nm) {z : UInt64} (hret : ret = some .double) (hd : decode by0 pc = .ok (.dreturn, 1)) (hc : cells ≤ R.cells) (hs : slots ≤ R.slots) (hP : P (some (.double z)) ds) : oW p l e R s m args below meth c Z h0 P ds cells slots pc Ls (.double z :: S) :=
  oW.leave K (by rw [hret]; intro h; cases h) hc hs hP fun vm0 T locs fs X hr => retOut X K.1.1 (K.2.2.1.trans hret) rfl (Or.inr (Or.inr (Or.inl ⟨rfl, rfl, _, rfl⟩))) (hb K.1.2.2.1 hd) hr
theorem oW.retA (K : oK p s m meth c Z own by0 ml ret nm) {a : Addr} {t : FieldType} (hret : ret = some t) (ht : t.isReference = true) (hn : narrow t (.ref a) = .ref a) (hd : decode by0 pc = .ok (.areturn, 1)) (hc : cells ≤ R.cells) (hs : slots ≤ R.slots) (hP : P (some (.ref a)) ds) : oW p l e R s m args below meth c Z h0 P ds cells slots pc Ls (.ref a :: S) :=
  oW.leave K (by rw [hret]; intro h; cases h) hc hs hP fun vm0 T locs fs X hr => retOut X K.1.1 (K.2.2.1.trans hret) hn (Or.inr (Or.inr (Or.inr (Or.inr ⟨rfl, ht, rfl⟩)))) (hb K.1.2.2.1 hd) hr
theorem oW.retV (K : oK p s m meth c Z own by0 ml ret nm) (hret : ret = none) (hd : decode by0 pc = .ok (.return_, 1)) (hc : cells ≤ R.cells) (hs : slots ≤ R.slots) (hP : P none ds) : oW p l e R s m args below meth c Z h0 P ds cells slots pc Ls [] :=
  oW.leave K (fun _ => rfl) hc hs hP fun vm0 T locs fs X hr => X.returnOut K.1.1 (K.2.2.1.trans hret) (hb K.1.2.2.1 hd) hr
theorem oW.callS (K : oK p s m meth c Z own by0 ml ret nm) {y : MethodName} {index : Nat} {by1 : ByteArray} {ml1 : Nat} {rt1 : Option FieldType} {rm : Room} {argsL : List Value} {P2 : Value → oDs → Prop} {W : Nat} {cells' slots' : Nat}
    (w1 : (Jvm.Cond.methodLink own index y).before a0 Z = true) (w2 : (Jvm.Cond.static y).before a0 Z = true) (w3 : (Jvm.Cond.initialized y.cls).before a0 Z = true) (w4 : (Jvm.Cond.code y by1 ml1 rt1).before a0 Z = true) (hy : y.cls ≠ "java/lang/invoke/MethodHandle" ∧ y.cls ≠ "java/lang/invoke/VarHandle")
    (C : oCtr l Z h0 [] y by1 ml1 rt1 rm argsL.toArray ds (oVal P2)) (hlen : ∀ sig, parseMethodDescriptor y.desc = some sig → argsL.length = sig.parameters.length) (hd : decode by0 pc = .ok (.invokestatic index, 3)) (hst : S' = argsL.reverse ++ S) (hsz : Ls.size = ml) (hW : (S.map fun v => v.category).sum ≤ W) (hf : rm.frames + 1 ≤ R.frames) (hl : W + (ml1 + 11) + rm.locals ≤ R.locals) (hc : cells + rm.cells ≤ R.cells) (hs : slots + rm.slots ≤ R.slots) (hc' : cells + rm.cells = cells') (hs' : slots + rm.slots = slots') (hp : pc + 3 = pc')
    (hr : ∀ w ds', P2 w ds' → oW p l e R s m args below meth c Z h0 P ds' cells' slots' pc' Ls (w :: S)) : oW p l e R s m args below meth c Z h0 P ds cells slots pc Ls S' := by
  subst hp hst hc' hs'
  rintro T ⟨vm0, k0, locs, X, hS, hK0, N, M⟩
  replace K := K.since hS
  obtain ⟨v, vm1, ⟨T', L', k', n'⟩, -, X', hS2, hg2, ⟨Lc, hQ, l', y', z'⟩, st⟩ := callSS X K.1.1 K.2.1 (mvT K.1.2.1 w1) (mvT K.1.2.1 w2) (mvT K.1.2.1 w3) (mvT K.1.2.1 w4) hy (backOfS (W := W) (Q := fun v hp L => Fr h0.size L ∧ ∃ ds', (oVal P2) v ds' ∧ oMem Z h0 hp ds') (C T.heap M) K.1.2.1 w4 w3 hf hl) (g := mkF m pc Ls (argsL.reverse ++ S)) rfl (hsz.trans K.1.2.2.2.symm) (argsL := argsL) (rest := S) hlen rfl (by show 2 * 0 + _ ≤ _; omega) (hb K.1.2.2.1 hd) (fun _ _ => ⟨rfl, rfl, hc, hs⟩)
  dsimp only [Pt.U, Pt.locs, Pt.cells, Pt.slots] at X' l' y' z' st hQ hS2 hg2
  subst l' y' z'
  obtain ⟨N', ds', hP, M'⟩ := hQ
  obtain ⟨w, rfl, hP⟩ := hP
  exact oW.ends (fun t k => st.trans k) (hr w ds' hP T' ⟨T'.vm, T'.heap.size, _, X', hS.trans hS2 (Nat.le_trans hK0 hg2), Nat.le_refl _, N.app N', M'⟩)
theorem oW.callV (K : oK p s m meth c Z own by0 ml ret nm) {y z : MethodName} {C : String} {index : Nat} {by1 : ByteArray} {ml1 : Nat} {rt1 : Option FieldType} {rm : Room} {a : Addr} {argsL : List Value} {P2 : Value → oDs → Prop} {W : Nat} {cells' slots' : Nat}
    (w1 : (Jvm.Cond.methodLink own index y).before a0 Z = true) (w2 : (Jvm.Cond.declares y).before a0 Z = true) (w3 : (Jvm.Cond.selects C y z).before a0 Z = true) (w4 : (Jvm.Cond.instanceMethod z).before a0 Z = true) (w5 : (Jvm.Cond.code z by1 ml1 rt1).before a0 Z = true) (w6 : (Jvm.Cond.initialized z.cls).before a0 Z = true) (hy : y.cls ≠ "java/lang/invoke/MethodHandle" ∧ y.cls ≠ "java/lang/invoke/VarHandle")
    (hnf : ∀ s : State, Z.Warmed39 s.vm → NotFace s y) (hE : ∀ h, oMem Z h0 h ds → Exa Z h a C) (Ct : oCtr l Z h0 [] z by1 ml1 rt1 rm (.ref a :: argsL).toArray ds (oVal P2)) (hlen : ∀ sig, parseMethodDescriptor y.desc = some sig → argsL.length = sig.parameters.length) (hd : decode by0 pc = .ok (.invokevirtual index, 3)) (hst : S' = argsL.reverse ++ .ref a :: S) (hsz : Ls.size = ml) (hW : (S.map fun v => v.category).sum ≤ W) (hf : rm.frames + 1 ≤ R.frames) (hl : W + (ml1 + 11) + rm.locals ≤ R.locals) (hc : cells + rm.cells ≤ R.cells) (hs : slots + rm.slots ≤ R.slots) (hc' : cells + rm.cells = cells') (hs' : slots + rm.slots = slots') (hp : pc + 3 = pc')
    (hr : ∀ w ds', P2 w ds' → oW p l e R s m args below meth c Z h0 P ds' cells' slots' pc' Ls (w :: S)) : oW p l e R s m args below meth c Z h0 P ds cells slots pc Ls S' := by
  subst hp hst hc' hs'
  rintro T ⟨vm0, k0, locs, X, hS, hK0, N, M⟩
  replace K := K.since hS
  obtain ⟨cq, kq, qa, qb, qc⟩ := isOf K.1.2.1 rfl (hE T.heap M)
  have w3' : (Jvm.Cond.selects C y z).before args (s.setVm vm0) = true := mvT K.1.2.1 w3
  obtain ⟨v, vm1, ⟨T', L', k', n'⟩, -, X', hS2, hg2, ⟨Lc, hQ, l', y', z'⟩, st⟩ := X.virtualBackS K.1.1 K.2.1 (mvT K.1.2.1 w1) (mvT K.1.2.1 w2) (hnf (s.setVm vm0) K.1.2.1) w3' (mvT K.1.2.1 w4) hy (backOfS (W := W) (Q := fun v hp L => Fr h0.size L ∧ ∃ ds', (oVal P2) v ds' ∧ oMem Z h0 hp ds') (Ct T.heap M) K.1.2.1 w5 w6 hf hl) qa qc (g := mkF m pc Ls (argsL.reverse ++ .ref a :: S)) rfl (hsz.trans K.1.2.2.2.symm) (Steps.refl _) (argsL := argsL) (rest := S) hlen rfl (by show 2 * 0 + _ ≤ _; omega) (hb K.1.2.2.1 hd) (fun _ _ => ⟨rfl, rfl, hc, hs⟩)
  dsimp only [Pt.U, Pt.locs, Pt.cells, Pt.slots] at X' l' y' z' st hQ hS2 hg2
  subst l' y' z'
  obtain ⟨N', ds', hP, M'⟩ := hQ
  obtain ⟨w, rfl, hP⟩ := hP
  exact oW.ends (fun t k => st.trans k) (hr w ds' hP T' ⟨T'.vm, T'.heap.size, _, X', hS.trans hS2 (Nat.le_trans hK0 hg2), Nat.le_refl _, N.app N', M'⟩)
theorem oW.callS0 (K : oK p s m meth c Z own by0 ml ret nm) {y : MethodName} {index : Nat} {by1 : ByteArray} {ml1 : Nat} {rt1 : Option FieldType} {rm : Room} {argsL : List Value} {P2 : oDs → Prop} {W : Nat} {cells' slots' : Nat}
    (w1 : (Jvm.Cond.methodLink own index y).before a0 Z = true) (w2 : (Jvm.Cond.static y).before a0 Z = true) (w3 : (Jvm.Cond.initialized y.cls).before a0 Z = true) (w4 : (Jvm.Cond.code y by1 ml1 rt1).before a0 Z = true) (hy : y.cls ≠ "java/lang/invoke/MethodHandle" ∧ y.cls ≠ "java/lang/invoke/VarHandle")
    (C : oCtr l Z h0 [] y by1 ml1 rt1 rm argsL.toArray ds (oVoid P2)) (hlen : ∀ sig, parseMethodDescriptor y.desc = some sig → argsL.length = sig.parameters.length) (hd : decode by0 pc = .ok (.invokestatic index, 3)) (hst : S' = argsL.reverse ++ S) (hsz : Ls.size = ml) (hW : (S.map fun v => v.category).sum ≤ W) (hf : rm.frames + 1 ≤ R.frames) (hl : W + (ml1 + 11) + rm.locals ≤ R.locals) (hc : cells + rm.cells ≤ R.cells) (hs : slots + rm.slots ≤ R.slots) (hc' : cells + rm.cells = cells') (hs' : slots + rm.slots = slots') (hp : pc + 3 = pc')
    (hr : ∀ ds', P2 ds' → oW p l e R s m args below meth c Z h0 P ds' cells' slots' pc' Ls S) : oW p l e R s m args below meth c Z h0 P ds cells slots pc Ls S' := by
  subst hp hst hc' hs'
  rintro T ⟨vm0, k0, locs, X, hS, hK0, N, M⟩
  replace K := K.since hS
  obtain ⟨v, vm1, ⟨T', L', k', n'⟩, -, X', hS2, hg2, ⟨Lc, hQ, l', y', z'⟩, st⟩ := callSS X K.1.1 K.2.1 (mvT K.1.2.1 w1) (mvT K.1.2.1 w2) (mvT K.1.2.1 w3) (mvT K.1.2.1 w4) hy (backOfS (W := W) (Q := fun v hp L => Fr h0.size L ∧ ∃ ds', (oVoid P2) v ds' ∧ oMem Z h0 hp ds') (C T.heap M) K.1.2.1 w4 w3 hf hl) (g := mkF m pc Ls (argsL.reverse ++ S)) rfl (hsz.trans K.1.2.2.2.symm) (argsL := argsL) (rest := S) hlen rfl (by show 2 * 0 + _ ≤ _; omega) (hb K.1.2.2.1 hd) (fun _ _ => ⟨rfl, rfl, hc, hs⟩)
  dsimp only [Pt.U, Pt.locs, Pt.cells, Pt.slots] at X' l' y' z' st hQ hS2 hg2
  subst l' y' z'
  obtain ⟨N', ds', hP, M'⟩ := hQ
  obtain ⟨rfl, hP⟩ := hP
  exact oW.ends (fun t k => st.trans k) (hr ds' hP T' ⟨T'.vm, T'.heap.size, _, X', hS.trans hS2 (Nat.le_trans hK0 hg2), Nat.le_refl _, N.app N', M'⟩)
theorem oW.callI (K : oK p s m meth c Z own by0 ml ret nm) {y : MethodName} {index : Nat} {by1 : ByteArray} {ml1 : Nat} {rm : Room} {a : Addr} {argsL : List Value} {P2 : oDs → Prop} {W : Nat} {cells' slots' : Nat} (hin : y.name = "<init>")
    (w1 : (Jvm.Cond.methodLink own index y).before a0 Z = true) (w2 : (Jvm.Cond.instanceMethod y).before a0 Z = true) (w3 : (Jvm.Cond.initialized y.cls).before a0 Z = true) (w4 : (Jvm.Cond.code y by1 ml1 none).before a0 Z = true) (hy : y.cls ≠ "java/lang/invoke/MethodHandle" ∧ y.cls ≠ "java/lang/invoke/VarHandle")
    (C : oCtr l Z h0 [] y by1 ml1 none rm (.ref a :: argsL).toArray ds (oVoid P2)) (hlen : ∀ sig, parseMethodDescriptor y.desc = some sig → argsL.length = sig.parameters.length) (hd : decode by0 pc = .ok (.invokespecial index, 3)) (hst : S' = argsL.reverse ++ .ref a :: S) (hsz : Ls.size = ml) (hW : (S.map fun v => v.category).sum ≤ W) (hf : rm.frames + 1 ≤ R.frames) (hl : W + (ml1 + 11) + rm.locals ≤ R.locals) (hc : cells + rm.cells ≤ R.cells) (hs : slots + rm.slots ≤ R.slots) (hc' : cells + rm.cells = cells') (hs' : slots + rm.slots = slots') (hp : pc + 3 = pc')
    (hr : ∀ ds', P2 ds' → oW p l e R s m args below meth c Z h0 P ds' cells' slots' pc' Ls S) : oW p l e R s m args below meth c Z h0 P ds cells slots pc Ls S' := by
  subst hp hst hc' hs'
  rintro T ⟨vm0, k0, locs, X, hS, hK0, N, M⟩
  replace K := K.since hS
  obtain ⟨v, vm1, ⟨T', L', k', n'⟩, -, X', hS2, hg2, ⟨Lc, hQ, l', y', z'⟩, st⟩ := X.specialBackS K.1.1 hin K.2.1 (mvT K.1.2.1 w1) (mvT K.1.2.1 w2) (mvT K.1.2.1 w4) hy (backOfS (W := W) (Q := fun v hp L => Fr h0.size L ∧ ∃ ds', (oVoid P2) v ds' ∧ oMem Z h0 hp ds') (C T.heap M) K.1.2.1 w4 w3 hf hl) (g := mkF m pc Ls (argsL.reverse ++ .ref a :: S)) rfl (hsz.trans K.1.2.2.2.symm) (Steps.refl _) (a := a) (argsL := argsL) (rest := S) hlen rfl (by show 2 * 0 + _ ≤ _; omega) (hb K.1.2.2.1 hd) (fun _ _ => ⟨rfl, rfl, hc, hs⟩)
  dsimp only [Pt.U, Pt.locs, Pt.cells, Pt.slots] at X' l' y' z' st hQ hS2 hg2
  subst l' y' z'
  obtain ⟨N', ds', hP, M'⟩ := hQ
  obtain ⟨rfl, hP⟩ := hP
  exact oW.ends (fun t k => st.trans k) (hr ds' hP T' ⟨T'.vm, T'.heap.size, _, X', hS.trans hS2 (Nat.le_trans hK0 hg2), Nat.le_refl _, N.app N', M'⟩)
theorem oW.callV0 (K : oK p s m meth c Z own by0 ml ret nm) {y z : MethodName} {C : String} {index : Nat} {by1 : ByteArray} {ml1 : Nat} {rt1 : Option FieldType} {rm : Room} {a : Addr} {argsL : List Value} {P2 : oDs → Prop} {W : Nat} {cells' slots' : Nat}
    (w1 : (Jvm.Cond.methodLink own index y).before a0 Z = true) (w2 : (Jvm.Cond.declares y).before a0 Z = true) (w3 : (Jvm.Cond.selects C y z).before a0 Z = true) (w4 : (Jvm.Cond.instanceMethod z).before a0 Z = true) (w5 : (Jvm.Cond.code z by1 ml1 rt1).before a0 Z = true) (w6 : (Jvm.Cond.initialized z.cls).before a0 Z = true) (hy : y.cls ≠ "java/lang/invoke/MethodHandle" ∧ y.cls ≠ "java/lang/invoke/VarHandle")
    (hnf : ∀ s : State, Z.Warmed39 s.vm → NotFace s y) (hE : ∀ h, oMem Z h0 h ds → Exa Z h a C) (Ct : oCtr l Z h0 [] z by1 ml1 rt1 rm (.ref a :: argsL).toArray ds (oVoid P2)) (hlen : ∀ sig, parseMethodDescriptor y.desc = some sig → argsL.length = sig.parameters.length) (hd : decode by0 pc = .ok (.invokevirtual index, 3)) (hst : S' = argsL.reverse ++ .ref a :: S) (hsz : Ls.size = ml) (hW : (S.map fun v => v.category).sum ≤ W) (hf : rm.frames + 1 ≤ R.frames) (hl : W + (ml1 + 11) + rm.locals ≤ R.locals) (hc : cells + rm.cells ≤ R.cells) (hs : slots + rm.slots ≤ R.slots) (hc' : cells + rm.cells = cells') (hs' : slots + rm.slots = slots') (hp : pc + 3 = pc')
    (hr : ∀ ds', P2 ds' → oW p l e R s m args below meth c Z h0 P ds' cells' slots' pc' Ls S) : oW p l e R s m args below meth c Z h0 P ds cells slots pc Ls S' := by
  subst hp hst hc' hs'
  rintro T ⟨vm0, k0, locs, X, hS, hK0, N, M⟩
  replace K := K.since hS
  obtain ⟨cq, kq, qa, qb, qc⟩ := isOf K.1.2.1 rfl (hE T.heap M)
  have w3' : (Jvm.Cond.selects C y z).before args (s.setVm vm0) = true := mvT K.1.2.1 w3
  obtain ⟨v, vm1, ⟨T', L', k', n'⟩, -, X', hS2, hg2, ⟨Lc, hQ, l', y', z'⟩, st⟩ := X.virtualBackS K.1.1 K.2.1 (mvT K.1.2.1 w1) (mvT K.1.2.1 w2) (hnf (s.setVm vm0) K.1.2.1) w3' (mvT K.1.2.1 w4) hy (backOfS (W := W) (Q := fun v hp L => Fr h0.size L ∧ ∃ ds', (oVoid P2) v ds' ∧ oMem Z h0 hp ds') (Ct T.heap M) K.1.2.1 w5 w6 hf hl) qa qc (g := mkF m pc Ls (argsL.reverse ++ .ref a :: S)) rfl (hsz.trans K.1.2.2.2.symm) (Steps.refl _) (argsL := argsL) (rest := S) hlen rfl (by show 2 * 0 + _ ≤ _; omega) (hb K.1.2.2.1 hd) (fun _ _ => ⟨rfl, rfl, hc, hs⟩)
  dsimp only [Pt.U, Pt.locs, Pt.cells, Pt.slots] at X' l' y' z' st hQ hS2 hg2
  subst l' y' z'
  obtain ⟨N', ds', hP, M'⟩ := hQ
  obtain ⟨rfl, hP⟩ := hP
  exact oW.ends (fun t k => st.trans k) (hr ds' hP T' ⟨T'.vm, T'.heap.size, _, X', hS.trans hS2 (Nat.le_trans hK0 hg2), Nat.le_refl _, N.app N', M'⟩)
theorem oNF {C : String} {y : MethodName} (w : (Jvm.Cond.selects C y y).before a0 Z = true) : ∀ s : State, Z.Warmed39 s.vm → NotFace s y := fun s hZ => notFace_of_selects (args := #[]) (mvT hZ w)
theorem oMem.exa {h : Heap} {i : Nat} {a : Addr} {C : String} {fs : List (String × String × String × Value)} (hi : ds[i]? = some (a, .inr (C, fs))) (M : oMem Z h0 h ds) : Exa Z h a C := (M.2.2 i _ hi).2.1
theorem oW.ldcS (K : oK p s m meth c Z own by0 ml ret nm) {index n : Nat} {text : String} (w : (Jvm.Cond.stringLink own index text).before a0 Z = true) (wS : ∀ a ∈ Bundle.stringAtoms, a.before a0 Z = true) (hd : decode by0 pc = .ok (.ldc index, 2)) (hn : 4 * text.toList.length ≤ n) (hbig : n ≤ 536870912) (hc : cells + 2 ≤ R.cells) (hs : slots + (n + 4) ≤ R.slots) {cells' slots' : Nat} (hc' : cells + 2 = cells') (hs' : slots + (n + 4) = slots') (hp : pc + 2 = pc') (hr : ∀ a : Addr, oW p l e R s m args below meth c Z h0 P ds cells' slots' pc' Ls (.ref a :: S)) : oW p l e R s m args below meth c Z h0 P ds cells slots pc Ls S := by
  subst hp hc' hs'
  rintro T ⟨vm0, k0, locs, X, hS, hK0, N, M⟩
  replace K := K.since hS
  obtain ⟨a, T', h', k1, X', e', E', hS', hk', -, -, st⟩ := Jvm.RoadKit.ldcS X K.1.1 K.1.2.1 K.2.1 w wS rfl hS hK0 (g := mkF m pc Ls S) rfl (hb K.1.2.2.1 hd) hn hbig hc hs
  exact oW.ends st (hr a T' ⟨T'.vm, k1, locs, X', hS', by rw [e']; exact hk', N, by rw [e']; exact M.ext E'⟩)
theorem oW.castR (K : oK p s m meth c Z own by0 ml ret nm) {index : Nat} {a : Addr} {C : String} (w : (Jvm.Cond.classLink own index C).before a0 Z = true) (hI : ∀ h, oMem Z h0 h ds → Ins Z h a C true) (hd : decode by0 pc = .ok (.checkcast index, 3)) (hp : pc + 3 = pc') (hr : oW p l e R s m args below meth c Z h0 P ds cells slots pc' Ls (.ref a :: S)) : oW p l e R s m args below meth c Z h0 P ds cells slots pc Ls (.ref a :: S) := by
  subst hp
  rintro T ⟨vm0, k0, locs, X, hS, hK0, N, M⟩
  replace K := K.since hS
  obtain ⟨T', X', e', st⟩ := castY X K.1.1 K.1.2.1 K.2.1 w rfl (hI T.heap M) (g := mkF m pc Ls (.ref a :: S)) rfl rfl (hb K.1.2.2.1 hd)
  exact oW.ends st (hr T' ⟨vm0, k0, _, X', hS, by rw [e']; exact hK0, N, by rw [e']; exact M⟩)
open Jvm.Free.Fl in
theorem oW.isInf (K : oK p s m meth c Z own by0 ml ret nm) {index : Nat} {x : UInt64} {W : Nat} (w1 : (Jvm.Cond.methodLink own index IsInfinite.yN).before a0 Z = true) (w2 : (Jvm.Cond.static IsInfinite.yN).before a0 Z = true) (w3 : (Jvm.Cond.initialized "java/lang/Double").before a0 Z = true) (w4 : (Jvm.Cond.code IsInfinite.yN IsInfinite.yB 2 (some .boolean)).before a0 Z = true) (w5 : (Jvm.Cond.methodLink "java/lang/Double" 38 Abs.absDN).before a0 Z = true) (w6 : (Jvm.Cond.static Abs.absDN).before a0 Z = true) (w7 : (Jvm.Cond.initialized "java/lang/Math").before a0 Z = true) (w8 : (Jvm.Cond.code Abs.absDN Abs.absDCode 2 (some .double)).before a0 Z = true) (w9 : (Jvm.Cond.constantDouble "java/lang/Double" 111 maxD).before a0 Z = true) (hx : Fin64 x) (hd : decode by0 pc = .ok (.invokestatic index, 3)) (hsz : Ls.size = ml) (hW : (S.map fun v => v.category).sum ≤ W) (hf : 2 ≤ R.frames) (hl : W + 13 + 13 ≤ R.locals) (hc : cells ≤ R.cells) (hs : slots ≤ R.slots) (hp : pc + 3 = pc') (hr : oW p l e R s m args below meth c Z h0 P ds cells slots pc' Ls (.int 0 :: S)) : oW p l e R s m args below meth c Z h0 P ds cells slots pc Ls (.double x :: S) := by
  subst hp
  rintro T ⟨vm0, k0, locs, X, hS, hK0, N, M⟩
  replace K := K.since hS
  obtain ⟨v, vm1, ⟨T', L', k', n'⟩, -, X', ⟨⟨e1, e2, e3, e4⟩, hv⟩, st⟩ := Jvm.LawKit.callS X K.1.1 K.2.1 (mvT K.1.2.1 w1) (mvT K.1.2.1 w2) (mvT K.1.2.1 w3) (mvT K.1.2.1 w4) (by decide) (IsInfinite.pays (W := W) hf hl (by simp only [IsInfinite.tab, Cond.before_and, Bool.and_eq_true]; exact ⟨mvT K.1.2.1 w4, mvT K.1.2.1 w5, mvT K.1.2.1 w6, mvT K.1.2.1 w7, mvT K.1.2.1 w8, mvT K.1.2.1 w9⟩) (mvT K.1.2.1 w3)) (g := mkF m pc Ls (.double x :: S)) rfl (hsz.trans K.1.2.2.2.symm) (argsL := [.double x]) (rest := S) (lenOf (show parseMethodDescriptor "(D)Z" = some ⟨[.double], some .boolean⟩ by decide +kernel) rfl) rfl (by show 2 * 0 + _ ≤ _; omega) (hb K.1.2.2.1 hd) (fun _ _ => ⟨hc, hs, x, rfl, hx.noNaN⟩)
  dsimp only [Pt.U, Pt.locs, Pt.cells, Pt.slots] at X' e1 e2 e3 e4 st
  subst e2 e3 e4
  have hv' := hv x ⟨rfl, hx.noNaN⟩
  rw [if_neg (fun h4 => (gt_max_iff hx.noNaN).mp h4 hx)] at hv'
  subst hv'
  have e1' : T'.heap = T.heap := e1
  exact oW.ends st (hr T' ⟨vm0, k0, _, X', hS, by rw [e1']; exact hK0, N, by rw [e1']; exact M⟩)
end Steps
section Nums
open Jvm.FP Jvm.Free.Fl
theorem oN53 : (2 ^ 53 : Nat) = 9007199254740992 := by decide
theorem oTs : (0 : Int32).toInt = 0 ∧ (1 : Int32).toInt = 1 ∧ (2 : Int32).toInt = 2 ∧ (3 : Int32).toInt = 3 ∧ (4 : Int32).toInt = 4 ∧ (5 : Int32).toInt = 5 ∧ (6 : Int32).toInt = 6 ∧ (7 : Int32).toInt = 7 ∧ (8 : Int32).toInt = 8 ∧ (9 : Int32).toInt = 9 ∧ (-1 : Int32).toInt = -1 ∧ (0 : Int64).toInt = 0 ∧ (1 : Int64).toInt = 1 ∧ (2 : Int64).toInt = 2 ∧ (8 : Int64).toInt = 8 ∧ (-1 : Int64).toInt = -1 := by decide
theorem oB32 (x : Int32) : -2147483648 ≤ x.toInt ∧ x.toInt ≤ 2147483647 := by
  have h1 := Int32.le_toInt x; have h2 := Int32.toInt_lt x; omega
theorem oB64 (x : Int64) : -9223372036854775808 ≤ x.toInt ∧ x.toInt ≤ 9223372036854775807 := by
  have h1 := Int64.le_toInt x; have h2 := Int64.toInt_lt x; omega
theorem oNN {i : Int} {x : UInt64} (h : Core.DInt i x) : NoNaN64 x := val64_no.mpr (Core.DInt_ne_nan h)
theorem oI2D {a : Int32} {v : UInt64} (h : v = FP.i2d a) : Core.DInt a.toInt v := h ▸ Core.i2d_int a
theorem oL2D {a : Int64} {v : UInt64} (h : v = FP.l2d a) (b : -9007199254740992 ≤ a.toInt ∧ a.toInt ≤ 9007199254740992) : Core.DInt a.toInt v := h ▸ Core.l2d_int (by have := oN53; omega)
theorem oDK (i : Int) {x : UInt64} (h : FP.l2d (Int64.ofInt i) = x) (b : (Int64.ofInt i).toInt = i ∧ (Int64.ofInt i).toInt.natAbs ≤ 2 ^ 53) : Core.DInt i x := by
  have := Core.l2d_int b.2
  rw [b.1] at this; exact h ▸ this
theorem oDAdd {i j : Int} {x y v : UInt64} (hx : Core.DInt i x) (hy : Core.DInt j y) (h : v = FP.dadd x y) (b : -9007199254740992 ≤ i + j ∧ i + j ≤ 9007199254740992) : Core.DInt (i + j) v := h ▸ Core.dadd_int hx hy (by have := oN53; omega)
theorem oDSub {i j : Int} {x y v : UInt64} (hx : Core.DInt i x) (hy : Core.DInt j y) (h : v = FP.dsub x y) (b : -9007199254740992 ≤ i - j ∧ i - j ≤ 9007199254740992) : Core.DInt (i - j) v := h ▸ Core.dsub_int hx hy (by have := oN53; omega)
theorem oDMul {i j : Int} {x y v : UInt64} (hx : Core.DInt i x) (hy : Core.DInt j y) (h : v = FP.dmul x y) (b : -9007199254740992 ≤ i * j ∧ i * j ≤ 9007199254740992) : Core.DInt (i * j) v := h ▸ Core.dmul_int hx hy (by have := oN53; omega)
theorem oCmp {i j : Int} {x y : UInt64} {o : CmpOp} {v : Int32} (hx : Core.DInt i x) (hy : Core.DInt j y) (h : v = cmpValue (FP.dcmp x y) o) : (v < 0 ↔ i < j) ∧ (v = 0 ↔ i = j) ∧ (0 < v ↔ j < i) := by
  have e : FP.dcmp x y = some (compare i j) := Core.dcmp_int hx hy
  rw [h, e, Core.compare_ite]
  by_cases h1 : i < j
  · have h2 : ¬ i = j := by omega
    have h3 : ¬ j < i := by omega
    simp only [h1, if_true, h2, h3, iff_false, iff_true]
    cases o <;> decide
  · by_cases h2 : i = j
    · have h3 : ¬ j < i := by omega
      simp only [h1, h2, if_false, if_true, iff_true, Int.lt_irrefl, iff_false]
      cases o <;> decide
    · have h3 : j < i := by omega
      simp only [h1, h2, h3, if_false, iff_false, iff_true]
      cases o <;> decide
theorem oLadd {x y z : Int64} (h : z = x + y) (b : -9223372036854775808 ≤ x.toInt + y.toInt ∧ x.toInt + y.toInt ≤ 9223372036854775807) : z.toInt = x.toInt + y.toInt := by
  rw [h, Int64.toInt_add]; exact Int.bmod_eq_of_le (by omega) (by omega)
theorem oLsub {x y z : Int64} (h : z = x - y) (b : -9223372036854775808 ≤ x.toInt - y.toInt ∧ x.toInt - y.toInt ≤ 9223372036854775807) : z.toInt = x.toInt - y.toInt := by
  rw [h, Int64.toInt_sub]; exact Int.bmod_eq_of_le (by omega) (by omega)
theorem oLmul {x y z : Int64} (h : z = x * y) (b : -9223372036854775808 ≤ x.toInt * y.toInt ∧ x.toInt * y.toInt ≤ 9223372036854775807) : z.toInt = x.toInt * y.toInt := by
  rw [h, Int64.toInt_mul]; exact Int.bmod_eq_of_le (by omega) (by omega)
theorem oIadd {x y z : Int32} (h : z = x + y) (b : -2147483648 ≤ x.toInt + y.toInt ∧ x.toInt + y.toInt ≤ 2147483647) : z.toInt = x.toInt + y.toInt := by
  rw [h, Int32.toInt_add]; exact Int.bmod_eq_of_le (by omega) (by omega)
theorem oIsub {x y z : Int32} (h : z = x - y) (b : -2147483648 ≤ x.toInt - y.toInt ∧ x.toInt - y.toInt ≤ 2147483647) : z.toInt = x.toInt - y.toInt := by
  rw [h, Int32.toInt_sub]; exact Int.bmod_eq_of_le (by omega) (by omega)
theorem oImul {x y z : Int32} (h : z = x * y) (b : -2147483648 ≤ x.toInt * y.toInt ∧ x.toInt * y.toInt ≤ 2147483647) : z.toInt = x.toInt * y.toInt := by
  rw [h, Int32.toInt_mul]; exact Int.bmod_eq_of_le (by omega) (by omega)
theorem oI2L {x : Int32} {z : Int64} (h : z = x.toInt64) : z.toInt = x.toInt := by rw [h]; exact Int32.toInt_toInt64 x
theorem oLcmp {x y : Int64} {v : Int32} (h : v = XT.cmpL x y) : (v < 0 ↔ x.toInt < y.toInt) ∧ (v = 0 ↔ x.toInt = y.toInt) ∧ (0 < v ↔ y.toInt < x.toInt) := by
  rw [h, XT.cmpL]
  simp only [Int64.lt_iff_toInt_lt, ← Int64.toInt_inj]
  by_cases h1 : y.toInt < x.toInt
  · have h2 : ¬ x.toInt = y.toInt := by omega
    have h3 : ¬ x.toInt < y.toInt := by omega
    simp only [h1, h2, h3, if_true, iff_true, iff_false]; decide
  · by_cases h2 : x.toInt = y.toInt
    · have h3 : ¬ x.toInt < y.toInt := by omega
      simp only [h1, h2, if_false, if_true, iff_true, Int.lt_irrefl, iff_false]; decide
    · have h3 : x.toInt < y.toInt := by omega
      simp only [h1, h2, h3, if_false, iff_false, iff_true]; decide
theorem oLt32 {x y : Int32} : x < y ↔ x.toInt < y.toInt := Int32.lt_iff_toInt_lt
theorem oEq32 {x y : Int32} : x = y ↔ x.toInt = y.toInt := Int32.toInt_inj.symm
theorem oEq64 {x y : Int64} : x = y ↔ x.toInt = y.toInt := Int64.toInt_inj.symm
theorem oMask (x : Int32) (k : Nat) (hk : k < 2 ^ 31) : ∃ n : Nat, n ≤ k ∧ (x &&& Int32.ofNat k) = Int32.ofNat n := by
  refine ⟨(x &&& Int32.ofNat k).toBitVec.toNat, ?_, ?_⟩
  · have e : (Int32.ofNat k).toBitVec.toNat = k := by
      show (BitVec.ofNat 32 k).toNat = k
      rw [BitVec.toNat_ofNat]; exact Nat.mod_eq_of_lt (by omega)
    rw [Int32.toBitVec_and, BitVec.toNat_and, e]; exact Nat.and_le_right
  · apply Int32.toBitVec_inj.mp
    show _ = BitVec.ofNat 32 _
    rw [BitVec.ofNat_toNat]; simp
theorem oMask3 {x v : Int32} (h : v = x &&& 3) : v = 0 ∨ v = 1 ∨ v = 2 ∨ v = 3 := by
  obtain ⟨n, hn, e⟩ := oMask x 3 (by decide)
  have e' : v = Int32.ofNat n := h.trans e
  have : n = 0 ∨ n = 1 ∨ n = 2 ∨ n = 3 := by omega
  rcases this with rfl | rfl | rfl | rfl
  · exact Or.inl e'
  · exact Or.inr (Or.inl e')
  · exact Or.inr (Or.inr (Or.inl e'))
  · exact Or.inr (Or.inr (Or.inr e'))
theorem oMask1 {x v : Int32} (h : v = x &&& 1) : v = 0 ∨ v = 1 := by
  obtain ⟨n, hn, e⟩ := oMask x 1 (by decide)
  have e' : v = Int32.ofNat n := h.trans e
  have : n = 0 ∨ n = 1 := by omega
  rcases this with rfl | rfl
  · exact Or.inl e'
  · exact Or.inr e'
theorem oMaskR {x v : Int32} (k : Nat) (hk : k < 2 ^ 31) (h : v = x &&& Int32.ofNat k) : 0 ≤ v.toInt ∧ v.toInt ≤ k := by
  obtain ⟨n, hn, e⟩ := oMask x k hk
  rw [h, e, Int32.toInt_ofNat_of_lt (by omega)]; omega
theorem oRem {u v y : Int32} (k : Int) (h : v = u % y) (hy : y.toInt = k) (hu : 0 ≤ u.toInt) : v.toInt = u.toInt % k := h ▸ (c_irem u y k hy).1 hu
/-! how great a double can be: her exponent's field is below K -/
abbrev oMag (K : Nat) (x : UInt64) : Prop := Jvm.Free.Fl.Mag64 K x
theorem oMNN {K : Nat} {x : UInt64} (h : oMag K x) (hK : K ≤ 2047) : NoNaN64 x := (h.fin hK).noNaN
theorem oMI2D {a : Int32} {v : UInt64} (h : v = FP.i2d a) : oMag 1056 v := h ▸ i2d_mag a
theorem oML2D {a : Int64} {v : UInt64} (h : v = FP.l2d a) : oMag 1088 v := h ▸ l2d_mag a
theorem oMMul {A B K : Nat} {x y v : UInt64} (hx : oMag A x) (hy : oMag B y) (h : v = FP.dmul x y) (b : A ≤ 2047 ∧ B ≤ 2047 ∧ A + B - 1025 + 3 ≤ K) : oMag K v := h ▸ (dmul_mag hx hy b.1 b.2.1).mono b.2.2
theorem oMAdd {A K : Nat} {x y v : UInt64} (hx : oMag A x) (hy : oMag A y) (h : v = FP.dadd x y) (b : A ≤ 2047 ∧ A + 2 ≤ K) : oMag K v := h ▸ (dadd_mag hx hy b.1).mono b.2
theorem oMSub {A K : Nat} {x y v : UInt64} (hx : oMag A x) (hy : oMag A y) (h : v = FP.dsub x y) (b : A ≤ 2047 ∧ A + 2 ≤ K) : oMag K v := h ▸ (dsub_mag hx hy b.1).mono b.2
theorem oMDiv {A L K : Nat} {x y v : UInt64} (hx : oMag A x) (hy : Big64 L y) (h : v = FP.ddiv x y) (b : A ≤ 2047 ∧ 1 ≤ L ∧ A + 1021 - L + 3 ≤ K) : oMag K v := h ▸ (ddiv_mag hx hy b.1 b.2.1).mono b.2.2
theorem oSame {x y : UInt64} {o : CmpOp} {v : Int32} (e : v = cmpValue (FP.dcmp x y) o) (h : x = y) (n : NoNaN64 x) : v = 0 := e.trans (dcmpV_eq h n o)
/-! a double that is no NaN, by its value in units of the least double (an infinity counts as the first number past the greatest) -/
def oZv (i : Int) (x : UInt64) : Prop := Core.val64 x ≠ .nan ∧ Core.zval Core.b64 (Core.val64 x) = i
theorem oZv.of {x : UInt64} (h : NoNaN64 x) : oZv (Core.zval Core.b64 (Core.val64 x)) x := ⟨val64_no.mp h, rfl⟩
theorem oZv.nn {i : Int} {x : UInt64} (h : oZv i x) : NoNaN64 x := val64_no.mpr h.1
theorem oZv.int {i : Int} {x : UInt64} (h : Core.DInt i x) : oZv (i * (Core.one64 : Int)) x := ⟨Core.DInt_ne_nan h, Core.DInt_zval h⟩
theorem oZmono {i j : Int} (h : i ≤ j) : i * (Core.one64 : Int) ≤ j * (Core.one64 : Int) := Int.mul_le_mul_of_nonneg_right h (Int.natCast_nonneg _)
theorem oCmpZ {i j : Int} {x y : UInt64} {o : CmpOp} {v : Int32} (hx : oZv i x) (hy : oZv j y) (h : v = cmpValue (FP.dcmp x y) o) : (v < 0 ↔ i < j) ∧ (v = 0 ↔ i = j) ∧ (0 < v ↔ j < i) := by
  have e : FP.dcmp x y = some (compare i j) := by have := Core.dcmp_zval hx.1 hy.1; rw [hx.2, hy.2] at this; exact this
  rw [h, e, Core.compare_ite]
  by_cases h1 : i < j
  · have h2 : ¬ i = j := by omega
    have h3 : ¬ j < i := by omega
    simp only [h1, if_true, h2, h3, iff_false, iff_true]
    cases o <;> decide
  · by_cases h2 : i = j
    · have h3 : ¬ j < i := by omega
      simp only [h1, h2, if_false, if_true, iff_true, Int.lt_irrefl, iff_false]
      cases o <;> decide
    · have h3 : j < i := by omega
      simp only [h1, h2, h3, if_false, iff_false, iff_true]
      cases o <;> decide
end Nums
section Dy
open Jvm.FP Jvm.FP.Core
/-! doubles that are n / 2^k exactly: her value in units of the least double is n * 2^(1074 - k) -/
def oQ (n : Int) (k : Nat) (x : UInt64) : Prop := DFin x ∧ zval b64 (val64 x) = n * ((2 ^ (1074 - k) : Nat) : Int)
theorem oQ.nn {n : Int} {k : Nat} {x : UInt64} (h : oQ n k x) : Jvm.Free.Fl.NoNaN64 x := Jvm.Free.Fl.val64_no.mpr h.1.ne_nan
theorem oQ.zv {n : Int} {k : Nat} {x : UInt64} (h : oQ n k x) : oZv (n * ((2 ^ (1074 - k) : Nat) : Int)) x := ⟨h.1.ne_nan, h.2⟩
theorem oQ.fin {n : Int} {k : Nat} {x : UInt64} (h : oQ n k x) : ∃ s c q, val64 x = .fin s c q ∧ Core.fits b64 (Datum.fin s c q) ∧ signed s (inUnits c q b64.qmin) = n * ((2 ^ (1074 - k) : Nat) : Int) := by
  obtain ⟨⟨s, c, q, e⟩, z⟩ := h
  have f := val64_fits x
  rw [e] at f z
  exact ⟨s, c, q, e, f, z⟩
theorem oQ.int {i : Int} {x : UInt64} (h : DInt i x) : oQ i 0 x := by
  refine ⟨?_, ?_⟩
  · have h' : Whole i (val64 x) := h
    cases e : val64 x with
    | nan => rw [e] at h'; exact h'.elim
    | inf s => rw [e] at h'; exact h'.elim
    | fin s c q => exact ⟨s, c, q, e⟩
  · rw [DInt_zval h]; rfl
theorem oPowCancel {A B a b : Nat} (h : A * 2 ^ a = B * 2 ^ b) : A * 2 ^ (a - b) = B * 2 ^ (b - a) := by
  rcases Nat.le_total a b with q | q
  · have e : 2 ^ b = 2 ^ (b - a) * 2 ^ a := by rw [← Nat.pow_add]; congr 1; omega
    rw [e, ← Nat.mul_assoc] at h
    rw [show a - b = 0 by omega, Nat.pow_zero, Nat.mul_one]
    exact Nat.eq_of_mul_eq_mul_right (Nat.two_pow_pos a) h
  · have e : 2 ^ a = 2 ^ (a - b) * 2 ^ b := by rw [← Nat.pow_add]; congr 1; omega
    rw [e, ← Nat.mul_assoc] at h
    rw [show b - a = 0 by omega, Nat.pow_zero, Nat.mul_one]
    exact Nat.eq_of_mul_eq_mul_right (Nat.two_pow_pos b) h
/-- a quotient that is N / 2^k, written otherwise -/
theorem oRR {s : Bool} {A B N M k : Nat} {e : Int} (hB : 0 < B) (hM : 0 ≤ e + M) (hk : k ≤ M) (h : A * 2 ^ (e + M).toNat = N * B * 2 ^ (M - k)) : roundRatio b64 s A B e = roundRatio b64 s N 1 (-(k : Int)) := by
  refine roundRatio_congr hB (by decide) ?_
  have c := oPowCancel h
  rw [show (e - -(k : Int)).toNat = (e + M).toNat - (M - k) by omega, show (-(k : Int) - e).toNat = (M - k) - (e + M).toNat by omega, Nat.mul_one]
  exact c
theorem oQmax (k : Nat) : -(k : Int) ≤ b64.qmax := by
  have h : b64.qmax = 971 := by decide
  omega
theorem oRX {s : Bool} {N k : Nat} (hN : N < 9007199254740992) (hk : k ≤ 1074) : ∃ c q, roundRatio b64 s N 1 (-(k : Int)) = .fin s c q ∧ inUnits c q b64.qmin = N * 2 ^ (1074 - k) := by
  obtain ⟨c, q, h1, h2⟩ := round_exact good_b64 s (c := N) (q := -(k : Int)) (by show N < 2 ^ 53; omega) (by rw [qmin_b64]; omega) (oQmax k)
  refine ⟨c, q, h1, h2.trans ?_⟩
  unfold inUnits; rw [qmin_b64]; congr 2; omega
theorem oSgn {s : Bool} {N : Nat} {n : Int} {P : Nat} (hP : 0 < P) (h : signed s (N * P) = n * (P : Int)) : signed s N = n := by
  rw [signed_mul] at h
  exact Int.eq_of_mul_eq_mul_right (by omega) h
theorem oAbs {s : Bool} {C N P : Nat} {n : Int} (h : signed s C = n * (P : Int)) (hN : n.natAbs = N) : C = N * P := by
  have := congrArg Int.natAbs h
  rw [natAbs_signed, Int.natAbs_mul, hN, Int.natAbs_natCast] at this
  exact this
/-- what is rounded from n / 2^k is just that -/
theorem oRnd {x : UInt64} {s : Bool} {A B M k : Nat} {e n : Int} (hx : val64 x = roundRatio b64 s A B e) (hB : 0 < B) (hM : 0 ≤ e + M) (hk : k ≤ M) (hk2 : k ≤ 1074) (hn : -9007199254740992 < n ∧ n < 9007199254740992) (h : signed s (A * 2 ^ (e + M).toNat) = n * ((B * 2 ^ (M - k) : Nat) : Int)) : oQ n k x := by
  have hA := oAbs h rfl
  rw [← Nat.mul_assoc] at hA
  rw [oRR hB hM hk hA] at hx
  obtain ⟨c, q, h1, h2⟩ := oRX (s := s) (N := n.natAbs) (k := k) (by omega) hk2
  rw [h1] at hx
  refine ⟨⟨s, c, q, hx⟩, ?_⟩
  rw [hx]
  show signed s (inUnits c q b64.qmin) = _
  rw [h2, signed_mul]
  have : signed s n.natAbs = n := by
    rw [hA, Nat.mul_assoc] at h
    exact oSgn (P := B * 2 ^ (M - k)) (Nat.mul_pos hB (Nat.two_pow_pos _)) h
  rw [this]
theorem oQ.add {n m : Int} {k : Nat} {x y v : UInt64} (hx : oQ n k x) (hy : oQ m k y) (e : v = FP.dadd x y) (hk : k ≤ 1074) (b : -9007199254740992 < n + m ∧ n + m < 9007199254740992) : oQ (n + m) k v := by
  obtain ⟨s, c, q, e1, f1, z1⟩ := hx.fin
  obtain ⟨t, d, r, e2, f2, z2⟩ := hy.fin
  obtain ⟨sg, C, E, h1, h2, h3⟩ := sum_units f1 f2
  have hv : val64 v = roundRatio b64 sg C 1 E := by rw [e]; show val64 (Core.dadd x y) = _; rw [val64_dadd, e1, e2, h1]; rfl
  rw [qmin_b64] at h2
  refine oRnd (M := 1074) hv (by decide) (by omega) hk hk b ?_
  have h4 : signed sg (inUnits C E b64.qmin) = (n + m) * ((2 ^ (1074 - k) : Nat) : Int) := by
    rw [h3]; show signed s (inUnits c q b64.qmin) + signed t (inUnits d r b64.qmin) = _; rw [z1, z2, Int.add_mul]
  rw [Nat.one_mul, ← h4]; unfold inUnits; rw [qmin_b64]; congr 3
theorem oQ.neg {n : Int} {k : Nat} {x : UInt64} (hx : oQ n k x) : ∃ s c q, negate (val64 x) = .fin s c q ∧ Core.fits b64 (Datum.fin s c q) ∧ signed s (inUnits c q b64.qmin) = (-n) * ((2 ^ (1074 - k) : Nat) : Int) := by
  obtain ⟨s, c, q, e1, f1, z1⟩ := hx.fin
  refine ⟨!s, c, q, by rw [e1]; rfl, f1, ?_⟩
  rw [signed_not, z1, Int.neg_mul]
theorem oQ.sub {n m : Int} {k : Nat} {x y v : UInt64} (hx : oQ n k x) (hy : oQ m k y) (e : v = FP.dsub x y) (hk : k ≤ 1074) (b : -9007199254740992 < n - m ∧ n - m < 9007199254740992) : oQ (n - m) k v := by
  obtain ⟨s, c, q, e1, f1, z1⟩ := hx.fin
  obtain ⟨t, d, r, e2, f2, z2⟩ := hy.neg
  obtain ⟨sg, C, E, h1, h2, h3⟩ := sum_units f1 f2
  have hv : val64 v = roundRatio b64 sg C 1 E := by rw [e]; show val64 (Core.dsub x y) = _; rw [val64_dsub, e1, e2, h1]; rfl
  rw [qmin_b64] at h2
  refine oRnd (M := 1074) hv (by decide) (by omega) hk hk b ?_
  have h4 : signed sg (inUnits C E b64.qmin) = (n - m) * ((2 ^ (1074 - k) : Nat) : Int) := by
    rw [h3]; show signed s (inUnits c q b64.qmin) + signed t (inUnits d r b64.qmin) = _; rw [z1, z2, ← Int.add_mul, Int.sub_eq_add_neg]
  rw [Nat.one_mul, ← h4]; unfold inUnits; rw [qmin_b64]; congr 3
theorem oQ.mul {n m : Int} {k j : Nat} {x y v : UInt64} (hx : oQ n k x) (hy : oQ m j y) (e : v = FP.dmul x y) (hk : k + j ≤ 1074) (b : -9007199254740992 < n * m ∧ n * m < 9007199254740992) : oQ (n * m) (k + j) v := by
  obtain ⟨s, c, q, e1, f1, z1⟩ := hx.fin
  obtain ⟨t, d, r, e2, f2, z2⟩ := hy.fin
  obtain ⟨h1, h2, h3⟩ := product_units f1 f2
  have hv : val64 v = roundRatio b64 (s != t) (c * d) 1 (q + r) := by rw [e]; show val64 (Core.dmul x y) = _; rw [val64_dmul, e1, e2, h1]; rfl
  rw [qmin_b64] at h2
  refine oRnd (M := 2148) hv (by decide) (by omega) (by omega) hk b ?_
  have h4 : signed (s != t) (inUnits (c * d) (q + r) (2 * b64.qmin)) = (n * m) * ((2 ^ (2148 - (k + j)) : Nat) : Int) := by
    rw [h3, signed_xor]
    show signed s (inUnits c q b64.qmin) * signed t (inUnits d r b64.qmin) = _
    rw [z1, z2, show 2148 - (k + j) = (1074 - k) + (1074 - j) by omega, Nat.pow_add, Int.natCast_mul]
    simp only [Int.mul_assoc, Int.mul_left_comm, Int.mul_comm]
  rw [Nat.one_mul, ← h4]; unfold inUnits; rw [qmin_b64]; congr 3
theorem oSgnPos {t : Bool} {D : Nat} (h : 0 < signed t D) : t = false := by
  cases t with
  | false => rfl
  | true => simp only [signed, if_true] at h; omega
theorem oSgnNat {s : Bool} {C P : Nat} {n : Int} (hP : 0 < P) (h : signed s C = n * (P : Int)) : signed s n.natAbs = n := by
  have hA := oAbs h rfl
  rw [hA] at h
  exact oSgn hP h
/-- a quotient of two such is the rounded ratio -/
theorem oQ.div {n m : Int} {k j : Nat} {x y v : UInt64} (hx : oQ n k x) (hy : oQ m j y) (e : v = FP.ddiv x y) (hm : 0 < m) (hk : k ≤ 1074) (hj : j ≤ 1074) : ∃ s, val64 v = roundRatio b64 s (n.natAbs * 2 ^ j) (m.natAbs * 2 ^ k) 0 ∧ signed s n.natAbs = n := by
  obtain ⟨s, c, q, e1, f1, z1⟩ := hx.fin
  obtain ⟨t, d, r, e2, f2, z2⟩ := hy.fin
  have q1 : b64.qmin ≤ q := f1.2.1
  have q2 : b64.qmin ≤ r := f2.2.1
  rw [qmin_b64] at q1 q2
  have ht : t = false := oSgnPos (by rw [z2]; exact Int.mul_pos hm (by have := Nat.two_pow_pos (1074 - j); omega))
  have hc := oAbs z1 rfl
  have hd := oAbs z2 rfl
  have hd0 : d ≠ 0 := by
    rintro rfl
    have : 0 < m.natAbs * 2 ^ (1074 - j) := Nat.mul_pos (by omega) (Nat.two_pow_pos _)
    unfold inUnits at hd
    rw [Nat.zero_mul] at hd
    omega
  have hv : val64 v = roundRatio b64 s c d (q - r) := by
    rw [e]; show val64 (Core.ddiv x y) = _
    rw [val64_ddiv, e1, e2, ht]
    show (if d = 0 then _ else roundRatio b64 (s != false) c d (q - r)) = _
    rw [if_neg hd0]; cases s <;> rfl
  refine ⟨s, ?_, oSgnNat (Nat.two_pow_pos _) z1⟩
  rw [hv]
  refine roundRatio_congr (by omega) (Nat.mul_pos (by omega) (Nat.two_pow_pos _)) ?_
  unfold inUnits at hc hd
  rw [qmin_b64] at hc hd
  have key : (c * (m.natAbs * 2 ^ k)) * 2 ^ (q - -1074).toNat = (n.natAbs * 2 ^ j * d) * 2 ^ (r - -1074).toNat := by
    have a1 : c * (m.natAbs * 2 ^ k) * 2 ^ (q - -1074).toNat = (c * 2 ^ (q - -1074).toNat) * (m.natAbs * 2 ^ k) := by
      simp only [Nat.mul_assoc, Nat.mul_left_comm, Nat.mul_comm]
    have a2 : n.natAbs * 2 ^ j * d * 2 ^ (r - -1074).toNat = (d * 2 ^ (r - -1074).toNat) * (n.natAbs * 2 ^ j) := by
      simp only [Nat.mul_assoc, Nat.mul_left_comm, Nat.mul_comm]
    rw [a1, a2, hc, hd]
    have a3 : 2 ^ (1074 - k) * 2 ^ k = 2 ^ (1074 - j) * 2 ^ j := by
      rw [← Nat.pow_add, ← Nat.pow_add]; congr 1; omega
    calc n.natAbs * 2 ^ (1074 - k) * (m.natAbs * 2 ^ k) = (n.natAbs * m.natAbs) * (2 ^ (1074 - k) * 2 ^ k) := Nat.mul_mul_mul_comm _ _ _ _
      _ = (m.natAbs * n.natAbs) * (2 ^ (1074 - j) * 2 ^ j) := by rw [a3, Nat.mul_comm n.natAbs]
      _ = m.natAbs * 2 ^ (1074 - j) * (n.natAbs * 2 ^ j) := (Nat.mul_mul_mul_comm _ _ _ _).symm
  have c := oPowCancel key
  rw [show (q - r - 0).toNat = (q - -1074).toNat - (r - -1074).toNat by omega, show (0 - (q - r)).toNat = (r - -1074).toNat - (q - -1074).toNat by omega]
  exact c
/-- a quotient that is r / 2^i -/
theorem oQ.divx {n m : Int} {k j : Nat} {x y v : UInt64} (hx : oQ n k x) (hy : oQ m j y) (e : v = FP.ddiv x y) (r : Int) (i : Nat) (hm : 0 < m) (hk : k ≤ 1074) (hj : j ≤ 1074) (hi : i ≤ 1074) (b : -9007199254740992 < r ∧ r < 9007199254740992) (h : n * ((2 ^ j : Nat) : Int) * ((2 ^ i : Nat) : Int) = r * (m * ((2 ^ k : Nat) : Int))) : oQ r i v := by
  obtain ⟨s, hv, hs⟩ := hx.div hy e hm hk hj
  refine oRnd (M := i) hv (Nat.mul_pos (by omega) (Nat.two_pow_pos _)) (by omega) (Nat.le_refl _) hi b ?_
  rw [show ((0 : Int) + (i : Int)).toNat = i by omega, Nat.sub_self, Nat.pow_zero, Nat.mul_one, signed_mul, signed_mul, hs, h, Int.natCast_mul, Int.natAbs_of_nonneg (by omega)]
/-- two quotients of the same value -/
theorem oQ.diveq {n m n' m' : Int} {k j k' j' : Nat} {x y v x' y' v' : UInt64} (hx : oQ n k x) (hy : oQ m j y) (e : v = FP.ddiv x y) (hx' : oQ n' k' x') (hy' : oQ m' j' y') (e' : v' = FP.ddiv x' y') (hn : 0 < n) (hn' : 0 < n') (hm : 0 < m) (hm' : 0 < m') (hk : k ≤ 1074) (hj : j ≤ 1074) (hk2 : k' ≤ 1074) (hj2 : j' ≤ 1074)
    (h : n * ((2 ^ j : Nat) : Int) * (m' * ((2 ^ k' : Nat) : Int)) = n' * ((2 ^ j' : Nat) : Int) * (m * ((2 ^ k : Nat) : Int))) : v = v' := by
  obtain ⟨s, hv, hs⟩ := hx.div hy e hm hk hj
  obtain ⟨s', hv', hs'⟩ := hx'.div hy' e' hm' hk2 hj2
  have s0 : s = false := oSgnPos (by rw [hs]; exact hn)
  have s1 : s' = false := oSgnPos (by rw [hs']; exact hn')
  have ev : val64 v = val64 v' := by
    rw [hv, hv', s0, s1]
    refine roundRatio_congr (Nat.mul_pos (by omega) (Nat.two_pow_pos _)) (Nat.mul_pos (by omega) (Nat.two_pow_pos _)) ?_
    show _ * 2 ^ 0 = _ * 2 ^ 0
    rw [Nat.pow_zero, Nat.mul_one, Nat.mul_one]
    have := congrArg Int.natAbs h
    simp only [Int.natAbs_mul, Int.natAbs_natCast] at this
    exact this
  have nn : val64 v ≠ .nan := by rw [hv]; exact roundRatio_ne_nan _ _ _ _ _
  exact val64_inj nn ev
/-- the same value, written finer -/
theorem oQ.up {n N : Int} {k k' : Nat} {x : UInt64} (h : oQ n k x) (j : Nat) (hk : k + j = k') (hk2 : k' ≤ 1074) (hN : n * ((2 ^ j : Nat) : Int) = N) : oQ N k' x := by
  refine ⟨h.1, h.2.trans ?_⟩
  rw [← hN, Int.mul_assoc, ← Int.natCast_mul, ← Nat.pow_add, show j + (1074 - k') = 1074 - k by omega]
theorem oQ.cast {n N : Int} {k k' : Nat} {x : UInt64} (h : oQ n k x) (hk : k = k') (hN : n = N) : oQ N k' x := by subst hk hN; exact h
theorem oQ.divnn {n m : Int} {k j : Nat} {x y v : UInt64} (hx : oQ n k x) (hy : oQ m j y) (e : v = FP.ddiv x y) (hm : 0 < m) (hk : k ≤ 1074) (hj : j ≤ 1074) : Jvm.Free.Fl.NoNaN64 v := by
  obtain ⟨s, hv, -⟩ := hx.div hy e hm hk hj
  exact Jvm.Free.Fl.val64_no.mpr (by rw [hv]; exact roundRatio_ne_nan _ _ _ _ _)
/-- two quotients of the same value, compared -/
theorem oQ.divcmp {n m n' m' : Int} {k j k' j' : Nat} {x y v x' y' v' : UInt64} {o : CmpOp} {r : Int32} (hx : oQ n k x) (hy : oQ m j y) (e : v = FP.ddiv x y) (hx' : oQ n' k' x') (hy' : oQ m' j' y') (e' : v' = FP.ddiv x' y') (er : r = cmpValue (FP.dcmp v v') o) (hm : 0 < m) (hm' : 0 < m') (hk : k ≤ 1074) (hj : j ≤ 1074) (hk2 : k' ≤ 1074) (hj2 : j' ≤ 1074)
    (h : n * ((2 ^ j : Nat) : Int) * (m' * ((2 ^ k' : Nat) : Int)) = n' * ((2 ^ j' : Nat) : Int) * (m * ((2 ^ k : Nat) : Int))) : r = 0 := by
  have P (a : Nat) : (0 : Int) < ((2 ^ a : Nat) : Int) := by have := Nat.two_pow_pos a; omega
  obtain ⟨s, hv, hs⟩ := hx.div hy e hm hk hj
  obtain ⟨s', hv', hs'⟩ := hx'.div hy' e' hm' hk2 hj2
  have nn : val64 v ≠ .nan := by rw [hv]; exact roundRatio_ne_nan _ _ _ _ _
  have nn' : val64 v' ≠ .nan := by rw [hv']; exact roundRatio_ne_nan _ _ _ _ _
  have pos {a b c : Int} (ha : 0 < a) (hb : 0 < b) (hc : 0 < c) : 0 < a * (b * c) := Int.mul_pos ha (Int.mul_pos hb hc)
  by_cases ss : s = s'
  · have ev : val64 v = val64 v' := by
      rw [hv, hv', ss]
      refine roundRatio_congr (Nat.mul_pos (by omega) (Nat.two_pow_pos _)) (Nat.mul_pos (by omega) (Nat.two_pow_pos _)) ?_
      show _ * 2 ^ 0 = _ * 2 ^ 0
      rw [Nat.pow_zero, Nat.mul_one, Nat.mul_one]
      have := congrArg Int.natAbs h
      simp only [Int.natAbs_mul, Int.natAbs_natCast] at this
      exact this
    exact oSame er (val64_inj nn ev) (Jvm.Free.Fl.val64_no.mpr nn)
  · have z0 : n = 0 := by
      rw [Int.mul_assoc, Int.mul_assoc] at h
      have p1 := pos (P j) hm' (P k')
      have p2 := pos (P j') hm (P k)
      generalize ((2 ^ j : Nat) : Int) * (m' * ((2 ^ k' : Nat) : Int)) = a at h p1
      generalize ((2 ^ j' : Nat) : Int) * (m * ((2 ^ k : Nat) : Int)) = b at h p2
      rcases Int.lt_trichotomy n 0 with q | q | q
      · have h1 : n * a < 0 := Int.mul_neg_of_neg_of_pos q p1
        have h2 : n' < 0 := Int.not_le.mp fun w => by have := Int.mul_nonneg w (Int.le_of_lt p2); omega
        exfalso; cases s <;> cases s' <;> simp only [signed, if_true, Bool.false_eq_true, if_false, not_true_eq_false] at hs hs' ss <;> omega
      · exact q
      · have h1 : 0 < n * a := Int.mul_pos q p1
        have h2 : 0 < n' := Int.not_le.mp fun w => by have := Int.mul_nonneg (show 0 ≤ -n' by omega) (Int.le_of_lt p2); rw [Int.neg_mul] at this; omega
        exfalso; cases s <;> cases s' <;> simp only [signed, if_true, Bool.false_eq_true, if_false, not_true_eq_false] at hs hs' ss <;> omega
    have z1 : n' = 0 := by
      rw [z0, Int.zero_mul, Int.zero_mul, Int.mul_assoc] at h
      rcases Int.mul_eq_zero.mp h.symm with q | q
      · exact q
      · have := pos (P j') hm (P k); omega
    have q1 : oQ 0 0 v := hx.divx hy e 0 0 hm hk hj (by omega) (by omega) (by rw [z0]; simp)
    have q2 : oQ 0 0 v' := hx'.divx hy' e' 0 0 hm' hk2 hj2 (by omega) (by omega) (by rw [z1]; simp)
    exact (oCmpZ q1.zv q2.zv er).2.1.mpr rfl
theorem oQ1 : oQ 4 2 4607182418800017408 := (oQ.int (oDK 1 (by decide +kernel) (by decide))).up 2 rfl (by decide) rfl
theorem oQ.fin64 {n : Int} {k : Nat} {x : UInt64} (h : oQ n k x) : Jvm.Free.Fl.Fin64 x := Jvm.Free.Fl.fin64_core.mpr h.1
theorem oQ0 (k : Nat) : oQ 0 k 0 := ⟨(oQ.int (oDK 0 (by decide +kernel) (by decide))).1, by rw [(oQ.int (oDK 0 (by decide +kernel) (by decide) : DInt 0 0)).2]; simp⟩
/-- compared at the same fineness -/
theorem oQ.cmp {n m : Int} {k : Nat} {x y : UInt64} {o : CmpOp} {v : Int32} (hx : oQ n k x) (hy : oQ m k y) (h : v = cmpValue (FP.dcmp x y) o) : (v < 0 ↔ n < m) ∧ (v = 0 ↔ n = m) ∧ (0 < v ↔ m < n) := by
  have P : (0 : Int) < ((2 ^ (1074 - k) : Nat) : Int) := by have := Nat.two_pow_pos (1074 - k); omega
  have r := oCmpZ hx.zv hy.zv h
  generalize ((2 ^ (1074 - k) : Nat) : Int) = a at P r
  have L (i j : Int) : i * a < j * a ↔ i < j := Int.mul_lt_mul_right P
  have E (i j : Int) : i * a = j * a ↔ i = j := ⟨fun q => Int.eq_of_mul_eq_mul_right (by omega) q, fun q => by rw [q]⟩
  rw [L, E, L] at r
  exact r
/-! whole numbers -/
theorem oMB {a b A B : Int} (ha : 0 ≤ a ∧ a ≤ A) (hb : 0 ≤ b ∧ b ≤ B) : 0 ≤ a * b ∧ a * b ≤ A * B := ⟨Int.mul_nonneg ha.1 hb.1, Int.mul_le_mul ha.2 hb.2 hb.1 (by omega)⟩
theorem oMBs {a b A B : Int} (ha : -A ≤ a ∧ a ≤ A) (hb : 0 ≤ b ∧ b ≤ B) : -(A * B) ≤ a * b ∧ a * b ≤ A * B := by
  have h1 : a * b ≤ A * B := Int.le_trans (Int.mul_le_mul_of_nonneg_right ha.2 hb.1) (Int.mul_le_mul_of_nonneg_left hb.2 (by omega))
  have h2 : -a * b ≤ A * B := Int.le_trans (Int.mul_le_mul_of_nonneg_right (show -a ≤ A by omega) hb.1) (Int.mul_le_mul_of_nonneg_left hb.2 (by omega))
  rw [Int.neg_mul] at h2
  omega
theorem oUshr1 {x v : Int32} (e : v = XT.ushr x 1) : 0 ≤ v.toInt ∧ v.toInt ≤ 2147483647 := by
  have h := c_iushr x 1 1 (by decide) (by decide)
  rw [e]; unfold XT.ushr; rw [h]; omega
theorem oShr21 {x v : Int32} (e : v = x >>> ((21 : Int32) &&& 31)) : -1024 ≤ v.toInt ∧ v.toInt ≤ 1023 := by
  have h := c_ishr x 21 21 (by decide)
  have b := oB32 x
  rw [e, h]; omega
theorem oShlI {z v : Int32} {E : Nat} (hz : z.toInt = (E : Int)) (hE : E ≤ 20) (e : v = (1 : Int32) <<< (z &&& 31)) : v.toInt = ((2 ^ E : Nat) : Int) := by
  have h : z = Int32.ofNat E := oEq32.mpr (by rw [hz, Int32.toInt_ofNat_of_lt (by omega)])
  have D : ∀ E : Fin 21, ((1 : Int32) <<< ((Int32.ofNat E.val) &&& 31)).toInt = ((2 ^ E.val : Nat) : Int) := by decide
  rw [e, h]; exact D ⟨E, by omega⟩
theorem oShlL {z : Int32} {v : Int64} {E : Nat} (hz : z.toInt = (E : Int)) (hE : E ≤ 20) (e : v = (1 : Int64) <<< (z.toInt64 &&& 63)) : v.toInt = ((2 ^ E : Nat) : Int) := by
  have h : z = Int32.ofNat E := oEq32.mpr (by rw [hz, Int32.toInt_ofNat_of_lt (by omega)])
  have D : ∀ E : Fin 21, ((1 : Int64) <<< ((Int32.ofNat E.val).toInt64 &&& 63)).toInt = ((2 ^ E.val : Nat) : Int) := by decide
  rw [e, h]; exact D ⟨E, by omega⟩
/-- a local that is not read any more: nothing or one word -/
def oDead (s : Slot) : Prop := s = .unset ∨ ∃ z : Int32, s = .val (.int z)
theorem oStoreDead {l l' : Array Slot} {i : Nat} {v : Value} {s : Slot} (h : l[i]? = some s) (hd : oDead s) (hs : storeSelf l i v = some l') : storeLocals l i v = some l' := by
  unfold storeLocals
  rcases hd with rfl | ⟨z, rfl⟩ <;> rw [h] <;> exact hs
end Dy
section Wt
open Jvm.FP Jvm.FP.Core
/-- the bounds that the sums and products stay within -/
def oBd (nB nK nI nT nD nP nW : Int) : Prop := (0 ≤ nB ∧ nB ≤ 4) ∧ (0 ≤ nK ∧ nK ≤ 255) ∧ (-1024 ≤ nI ∧ nI ≤ 1024) ∧ (1 ≤ nT ∧ nT ≤ 65536) ∧ (0 ≤ nD ∧ nD ≤ 1048576) ∧ (0 ≤ nP ∧ nP ≤ 1048576) ∧ (1 ≤ nW ∧ nW ≤ 4096)
def oBx (nB nK nI nT nD nP nW : Int) : Prop := (0 ≤ nB * nD ∧ nB * nD ≤ 4194304) ∧ (0 ≤ nB * nP ∧ nB * nP ≤ 4194304) ∧ (0 ≤ (4 - nB) * nW ∧ (4 - nB) * nW ≤ 16384) ∧ (-265216 ≤ nI * (nK + 4) ∧ nI * (nK + 4) ≤ 265216) ∧ (-17381195776 ≤ nI * (nK + 4) * nT ∧ nI * (nK + 4) * nT ≤ 17381195776) ∧ (0 ≤ nK * ((4 - nB) * nW + nB * nP) ∧ nK * ((4 - nB) * nW + nB * nP) ≤ 1073725440) ∧ (1 ≤ nT * (nW * 16) ∧ nT * (nW * 16) ≤ 4294967296) ∧ (-284773511593984 ≤ nI * (nK + 4) * nT * (nW * 4) ∧ nI * (nK + 4) * nT * (nW * 4) ≤ 284773511593984)
theorem oBd.x {nB nK nI nT nD nP nW : Int} (h : oBd nB nK nI nT nD nP nW) : oBx nB nK nI nT nD nP nW := by
  obtain ⟨b1, b2, b3, b4, b5, b6, b7⟩ := h
  have c1 := oMB b1 b5
  have c2 := oMB b1 b6
  have c3 := oMB (a := 4 - nB) (A := 4) (by omega) (show 0 ≤ nW ∧ nW ≤ 4096 by omega)
  have c4 := oMBs b3 (b := nK + 4) (B := 259) (by omega)
  have c5 := oMBs (a := nI * (nK + 4)) (A := 265216) (by omega) (show 0 ≤ nT ∧ nT ≤ 65536 by omega)
  have c6 := oMB b2 (b := (4 - nB) * nW + nB * nP) (B := 4210688) (by omega)
  have c7 := oMB (show 0 ≤ nT - 1 ∧ nT - 1 ≤ 65535 by omega) (show 0 ≤ nW * 16 ∧ nW * 16 ≤ 65536 by omega)
  rw [Int.sub_mul] at c7
  have c8 := oMBs (a := nI * (nK + 4) * nT) (A := 17381195776) (by omega) (show 0 ≤ nW * 4 ∧ nW * 4 ≤ 16384 by omega)
  unfold oBx
  refine ⟨by omega, by omega, by omega, by omega, by omega, by omega, by omega, by omega⟩
theorem oRatio {nB nD nP nA nW : Int} {E : Nat} (hW : ((2 ^ E : Nat) : Int) = nW) (h : nD * nW = nP * nA) : nB * nD * ((2 ^ 0 : Nat) : Int) * ((2 ^ (2 + E) : Nat) : Int) = nB * nP * (nA * ((2 ^ (2 + 0) : Nat) : Int)) := by
  rw [Nat.pow_add, Int.natCast_mul, hW, Nat.pow_zero]
  show nB * nD * 1 * (4 * nW) = nB * nP * (nA * 4)
  rw [Int.mul_one]
  calc nB * nD * (4 * nW) = nB * (nD * nW) * 4 := by simp only [Int.mul_assoc, Int.mul_left_comm, Int.mul_comm]
    _ = nB * (nP * nA) * 4 := by rw [h]
    _ = nB * nP * (nA * 4) := by simp only [Int.mul_assoc, Int.mul_left_comm, Int.mul_comm]
theorem oP16 {nT nW : Int} {E : Nat} (hW : ((2 ^ E : Nat) : Int) = nW) : nT * ((2 ^ (2 + (2 + E)) : Nat) : Int) = nT * (nW * 16) := by
  rw [Nat.pow_add, Nat.pow_add, Int.natCast_mul, Int.natCast_mul, hW]
  show nT * (4 * (4 * nW)) = nT * (nW * 16)
  congr 1; omega
theorem oSameR {N D nW : Int} {E : Nat} (hW : ((2 ^ E : Nat) : Int) = nW) : N * ((2 ^ (2 + (2 + E)) : Nat) : Int) * (D * ((2 ^ 0 : Nat) : Int)) = N * (nW * 4) * ((2 ^ 0 : Nat) : Int) * (D * ((2 ^ (0 + 2 + 0) : Nat) : Int)) := by
  rw [oP16 hW]
  show N * (nW * 16) * (D * 1) = N * (nW * 4) * 1 * (D * 4)
  rw [Int.mul_one, Int.mul_one]
  rw [show nW * 16 = nW * 4 * 4 by omega]
  simp only [Int.mul_assoc, Int.mul_left_comm, Int.mul_comm]
end Wt
theorem d5_0 : decode jdk_31_method_11_code 0 = .ok (.aload_n 0, 1) := by decide +kernel
theorem d5_1 : decode jdk_31_method_11_code 1 = .ok (.ifnonnull 12, 3) := by decide +kernel
theorem d5_4 : decode jdk_31_method_11_code 4 = .ok (.new 84, 3) := by decide +kernel
theorem d5_7 : decode jdk_31_method_11_code 7 = .ok (.dup, 1) := by decide +kernel
theorem d5_8 : decode jdk_31_method_11_code 8 = .ok (.aload_n 1, 1) := by decide +kernel
theorem d5_9 : decode jdk_31_method_11_code 9 = .ok (.invokespecial 87, 3) := by decide +kernel
theorem d5_12 : decode jdk_31_method_11_code 12 = .ok (.athrow, 1) := by decide +kernel
theorem d5_13 : decode jdk_31_method_11_code 13 = .ok (.aload_n 0, 1) := by decide +kernel
theorem d5_14 : decode jdk_31_method_11_code 14 = .ok (.areturn, 1) := by decide +kernel
set_option maxRecDepth 65536 in
set_option maxHeartbeats 40000000 in
theorem own_rnn {l : Launch} {Z : State} {a0 : Array Value} {h0 : Heap} (hw : ∀ d ∈ tables_1, d.before a0 Z = true) {o1 o2 : Addr} {ds0 : oDs} :
    oCtr l Z h0 [] (⟨"java/util/Objects", "requireNonNull", "(Ljava/lang/Object;Ljava/lang/String;)Ljava/lang/Object;"⟩ : MethodName) jdk_31_method_11_code 2 (some (.object "java/lang/Object")) ({ frames := 0, cells := 0, slots := 0, locals := 0 } : Room) #[(.ref o1), (.ref o2)] ds0 (oVal fun w d => w = .ref o1 ∧ d = ds0) := by
  refine oCtr.of (Ls := #[.val (.ref o1), .val (.ref o2)]) (plainFor_of_name (by first | (simp [plainName, overriddenIn]; done) | decide +kernel)) (fun m => by first | (simp [entryFrame, mkF, argsToLocals, Value.category]; done) | rfl) ?_
  intro p e s m below meth c K
  refine oW.aloadN (pc' := 1) K d5_0 rfl rfl rfl ?_
  refine oW.ifnonnullYes (pc' := 13) K d5_1 (by decide) (by decide) ?_
  refine oW.aloadN (pc' := 14) K d5_13 rfl rfl rfl ?_
  exact oW.retA K rfl rfl rfl d5_14 (by decide) (by decide) ⟨_, rfl, rfl, rfl⟩
theorem d1_0 : decode prog_43_method_2_code 0 = .ok (.aload_n 0, 1) := by decide +kernel
theorem d1_1 : decode prog_43_method_2_code 1 = .ok (.invokespecial 15, 3) := by decide +kernel
theorem d1_4 : decode prog_43_method_2_code 4 = .ok (.dload_n 1, 1) := by decide +kernel
theorem d1_5 : decode prog_43_method_2_code 5 = .ok (.dconst 0, 1) := by decide +kernel
theorem d1_6 : decode prog_43_method_2_code 6 = .ok (.dcmp .l, 1) := by decide +kernel
theorem d1_7 : decode prog_43_method_2_code 7 = .ok (.ifCond .lt 10, 3) := by decide +kernel
theorem d1_10 : decode prog_43_method_2_code 10 = .ok (.dload_n 1, 1) := by decide +kernel
theorem d1_11 : decode prog_43_method_2_code 11 = .ok (.invokestatic 20, 3) := by decide +kernel
theorem d1_14 : decode prog_43_method_2_code 14 = .ok (.ifCond .eq 17, 3) := by decide +kernel
theorem d1_17 : decode prog_43_method_2_code 17 = .ok (.new 24, 3) := by decide +kernel
theorem d1_20 : decode prog_43_method_2_code 20 = .ok (.dup, 1) := by decide +kernel
theorem d1_21 : decode prog_43_method_2_code 21 = .ok (.dload_n 1, 1) := by decide +kernel
theorem d1_27 : decode prog_43_method_2_code 27 = .ok (.invokespecial 30, 3) := by decide +kernel
theorem d1_30 : decode prog_43_method_2_code 30 = .ok (.athrow, 1) := by decide +kernel
theorem d1_31 : decode prog_43_method_2_code 31 = .ok (.dload_n 3, 1) := by decide +kernel
theorem d1_32 : decode prog_43_method_2_code 32 = .ok (.dconst 0, 1) := by decide +kernel
theorem d1_33 : decode prog_43_method_2_code 33 = .ok (.dcmp .l, 1) := by decide +kernel
theorem d1_34 : decode prog_43_method_2_code 34 = .ok (.ifCond .lt 9, 3) := by decide +kernel
theorem d1_37 : decode prog_43_method_2_code 37 = .ok (.dload_n 3, 1) := by decide +kernel
theorem d1_38 : decode prog_43_method_2_code 38 = .ok (.dconst 1, 1) := by decide +kernel
theorem d1_39 : decode prog_43_method_2_code 39 = .ok (.dcmp .g, 1) := by decide +kernel
theorem d1_40 : decode prog_43_method_2_code 40 = .ok (.ifCond .le 17, 3) := by decide +kernel
theorem d1_43 : decode prog_43_method_2_code 43 = .ok (.new 24, 3) := by decide +kernel
theorem d1_46 : decode prog_43_method_2_code 46 = .ok (.dup, 1) := by decide +kernel
theorem d1_47 : decode prog_43_method_2_code 47 = .ok (.dload_n 3, 1) := by decide +kernel
theorem d1_53 : decode prog_43_method_2_code 53 = .ok (.invokespecial 30, 3) := by decide +kernel
theorem d1_56 : decode prog_43_method_2_code 56 = .ok (.athrow, 1) := by decide +kernel
theorem d1_57 : decode prog_43_method_2_code 57 = .ok (.dload 6, 2) := by decide +kernel
theorem d1_59 : decode prog_43_method_2_code 59 = .ok (.dconst 0, 1) := by decide +kernel
theorem d1_60 : decode prog_43_method_2_code 60 = .ok (.dcmp .l, 1) := by decide +kernel
theorem d1_61 : decode prog_43_method_2_code 61 = .ok (.ifCond .ge 18, 3) := by decide +kernel
theorem d1_64 : decode prog_43_method_2_code 64 = .ok (.new 24, 3) := by decide +kernel
theorem d1_67 : decode prog_43_method_2_code 67 = .ok (.dup, 1) := by decide +kernel
theorem d1_68 : decode prog_43_method_2_code 68 = .ok (.dload 6, 2) := by decide +kernel
theorem d1_75 : decode prog_43_method_2_code 75 = .ok (.invokespecial 30, 3) := by decide +kernel
theorem d1_78 : decode prog_43_method_2_code 78 = .ok (.athrow, 1) := by decide +kernel
theorem d1_79 : decode prog_43_method_2_code 79 = .ok (.aload_n 0, 1) := by decide +kernel
theorem d1_80 : decode prog_43_method_2_code 80 = .ok (.dload_n 1, 1) := by decide +kernel
theorem d1_81 : decode prog_43_method_2_code 81 = .ok (.putfield 35, 3) := by decide +kernel
theorem d1_84 : decode prog_43_method_2_code 84 = .ok (.aload_n 0, 1) := by decide +kernel
theorem d1_85 : decode prog_43_method_2_code 85 = .ok (.dload_n 3, 1) := by decide +kernel
theorem d1_86 : decode prog_43_method_2_code 86 = .ok (.putfield 39, 3) := by decide +kernel
theorem d1_89 : decode prog_43_method_2_code 89 = .ok (.aload_n 0, 1) := by decide +kernel
theorem d1_90 : decode prog_43_method_2_code 90 = .ok (.aload 5, 2) := by decide +kernel
theorem d1_92 : decode prog_43_method_2_code 92 = .ok (.ldc 42, 2) := by decide +kernel
theorem d1_94 : decode prog_43_method_2_code 94 = .ok (.invokestatic 44, 3) := by decide +kernel
theorem d1_97 : decode prog_43_method_2_code 97 = .ok (.checkcast 50, 3) := by decide +kernel
theorem d1_100 : decode prog_43_method_2_code 100 = .ok (.putfield 52, 3) := by decide +kernel
theorem d1_103 : decode prog_43_method_2_code 103 = .ok (.aload_n 0, 1) := by decide +kernel
theorem d1_104 : decode prog_43_method_2_code 104 = .ok (.dload 6, 2) := by decide +kernel
theorem d1_106 : decode prog_43_method_2_code 106 = .ok (.putfield 54, 3) := by decide +kernel
theorem d1_109 : decode prog_43_method_2_code 109 = .ok (.return_, 1) := by decide +kernel
theorem oLd_0 {Z : State} {a0 : Array Value} (hw : ∀ d ∈ tables_1, d.before a0 Z = true) : ∀ f ∈ ([("com/example/likely_match/likelymatch/ranking/Bm25", "k1", "D", (.double (0 : UInt64))), ("com/example/likely_match/likelymatch/ranking/Bm25", "b", "D", (.double (0 : UInt64))), ("com/example/likely_match/likelymatch/ranking/Bm25", "idf", "Lcom/example/likely_match/likelymatch/ranking/Idf;", .null), ("com/example/likely_match/likelymatch/ranking/Bm25", "k3", "D", (.double (0 : UInt64)))] : List (String × String × String × Value)), Laid Z a0 "com/example/likely_match/likelymatch/ranking/Bm25" f.1 f.2.1 f.2.2.1 ∧ ∃ t, parseFieldDescriptor f.2.2.1 = some t ∧ f.2.2.2 = defaultValue t := by
    intro f hf
    simp only [List.mem_cons, List.not_mem_nil, or_false] at hf
    rcases hf with rfl | rfl | rfl | rfl
    · exact ⟨Or.inr (hw _ (List.mem_of_getElem? (i := 26) rfl)), .double, (by decide : parseFieldDescriptor "D" = some .double), rfl⟩
    · exact ⟨Or.inr (hw _ (List.mem_of_getElem? (i := 28) rfl)), .double, (by decide : parseFieldDescriptor "D" = some .double), rfl⟩
    · exact ⟨Or.inr (hw _ (List.mem_of_getElem? (i := 44) rfl)), (.object "com/example/likely_match/likelymatch/ranking/Idf"), (by decide : parseFieldDescriptor "Lcom/example/likely_match/likelymatch/ranking/Idf;" = some (.object "com/example/likely_match/likelymatch/ranking/Idf")), rfl⟩
    · exact ⟨Or.inr (hw _ (List.mem_of_getElem? (i := 46) rfl)), .double, (by decide : parseFieldDescriptor "D" = some .double), rfl⟩
theorem oAp_0 {Z : State} {a0 : Array Value} (hw : ∀ d ∈ tables_1, d.before a0 Z = true) {y0 y1 y2 y3 : Value} : oApart Z [("com/example/likely_match/likelymatch/ranking/Bm25", "k1", "D", y0), ("com/example/likely_match/likelymatch/ranking/Bm25", "b", "D", y1), ("com/example/likely_match/likelymatch/ranking/Bm25", "idf", "Lcom/example/likely_match/likelymatch/ranking/Idf;", y2), ("com/example/likely_match/likelymatch/ranking/Bm25", "k3", "D", y3)] := by
  refine oApart.of (C := "com/example/likely_match/likelymatch/ranking/Bm25") (a0 := a0) (fun f hf => ?_) (by show (["k1", "b", "idf", "k3"] : List String).Nodup; decide)
  · simp only [List.mem_cons, List.not_mem_nil, or_false] at hf
    rcases hf with rfl | rfl | rfl | rfl
    · exact ⟨Or.inr (hw _ (List.mem_of_getElem? (i := 26) rfl)), .double, (by decide : parseFieldDescriptor "D" = some .double)⟩
    · exact ⟨Or.inr (hw _ (List.mem_of_getElem? (i := 28) rfl)), .double, (by decide : parseFieldDescriptor "D" = some .double)⟩
    · exact ⟨Or.inr (hw _ (List.mem_of_getElem? (i := 44) rfl)), (.object "com/example/likely_match/likelymatch/ranking/Idf"), (by decide : parseFieldDescriptor "Lcom/example/likely_match/likelymatch/ranking/Idf;" = some (.object "com/example/likely_match/likelymatch/ranking/Idf"))⟩
    · exact ⟨Or.inr (hw _ (List.mem_of_getElem? (i := 46) rfl)), .double, (by decide : parseFieldDescriptor "D" = some .double)⟩
theorem oStr {Z : State} {a0 : Array Value} (hw : ∀ d ∈ tables_1, d.before a0 Z = true) : ∀ a ∈ Bundle.stringAtoms, a.before a0 Z = true := by
  intro a ha
  simp only [Bundle.stringAtoms, List.mem_cons, List.not_mem_nil, or_false] at ha
  rcases ha with rfl | rfl | rfl | rfl | rfl | rfl | rfl
  · exact (hw _ (List.mem_of_getElem? (i := 30) rfl))
  · exact (hw _ (List.mem_of_getElem? (i := 31) rfl))
  · exact (hw _ (List.mem_of_getElem? (i := 32) rfl))
  · exact (hw _ (List.mem_of_getElem? (i := 33) rfl))
  · exact (hw _ (List.mem_of_getElem? (i := 34) rfl))
  · exact (hw _ (List.mem_of_getElem? (i := 35) rfl))
  · exact (hw _ (List.mem_of_getElem? (i := 36) rfl))
theorem pd_0 : parseMethodDescriptor "(Ljava/lang/Object;Ljava/lang/String;)Ljava/lang/Object;" = some ⟨[(.object "java/lang/Object"), (.object "java/lang/String")], some (.object "java/lang/Object")⟩ := by decide +kernel
set_option maxRecDepth 65536 in
set_option maxHeartbeats 40000000 in
theorem own_init {l : Launch} {Z : State} {a0 : Array Value} {h0 : Heap} (hw : ∀ d ∈ tables_1, d.before a0 Z = true) {x y k3 : UInt64} {ia o : Addr} (hE : Exa Z h0 ia "com/example/likely_match/likelymatch/ranking/Idf") (hf1 : Jvm.Free.Fl.Fin64 x) (h1 : ¬ cmpValue (FP.dcmp x 0) .l < 0) (h2 : ¬ cmpValue (FP.dcmp y 0) .l < 0) (h3 : ¬ 0 < cmpValue (FP.dcmp y 4607182418800017408) .g) (h4 : ¬ cmpValue (FP.dcmp k3 0) .l < 0) :
    oCtr l Z h0 [] (⟨"com/example/likely_match/likelymatch/ranking/Bm25", "<init>", "(DDLcom/example/likely_match/likelymatch/ranking/Idf;D)V"⟩ : MethodName) prog_43_method_2_code 8 none ({ frames := 2, cells := 2, slots := 16, locals := 60 } : Room) #[(.ref o), (.double x), (.double y), (.ref ia), (.double k3)] [(o, .inr ("com/example/likely_match/likelymatch/ranking/Bm25", [("com/example/likely_match/likelymatch/ranking/Bm25", "k1", "D", (.double (0 : UInt64))), ("com/example/likely_match/likelymatch/ranking/Bm25", "b", "D", (.double (0 : UInt64))), ("com/example/likely_match/likelymatch/ranking/Bm25", "idf", "Lcom/example/likely_match/likelymatch/ranking/Idf;", .null), ("com/example/likely_match/likelymatch/ranking/Bm25", "k3", "D", (.double (0 : UInt64)))]))] (oVoid fun d => d = [(o, .inr ("com/example/likely_match/likelymatch/ranking/Bm25", [("com/example/likely_match/likelymatch/ranking/Bm25", "k1", "D", (.double x)), ("com/example/likely_match/likelymatch/ranking/Bm25", "b", "D", (.double y)), ("com/example/likely_match/likelymatch/ranking/Bm25", "idf", "Lcom/example/likely_match/likelymatch/ranking/Idf;", (.ref ia)), ("com/example/likely_match/likelymatch/ranking/Bm25", "k3", "D", (.double k3))]))]) := by
  refine oCtr.of (Ls := #[.val (.ref o), .val (.double x), .second, .val (.double y), .second, .val (.ref ia), .val (.double k3), .second]) (plainFor_of_name (by first | (simp [plainName, overriddenIn]; done) | decide +kernel)) (fun m => by first | (simp [entryFrame, mkF, argsToLocals, Value.category]; done) | rfl) ?_
  intro p e s m below meth c K
  refine oW.aloadN (pc' := 1) K d1_0 rfl rfl rfl ?_
  refine oW.initO (W := 0) (pc' := 4) K (hw _ (List.mem_of_getElem? (i := 13) rfl)) (hw _ (List.mem_of_getElem? (i := 14) rfl)) (hw _ (List.mem_of_getElem? (i := 15) rfl)) d1_1 rfl (by decide) (Nat.le_of_eq rfl) (by decide) rfl ?_
  refine oW.dloadN (pc' := 5) K d1_4 rfl rfl ?_
  refine oW.dconst0 (pc' := 6) K d1_5 rfl ?_
  obtain ⟨v6, ev6⟩ : ∃ z : Int32, z = cmpValue (FP.dcmp x (0 : UInt64)) .l := ⟨_, rfl⟩
  refine oW.dcmp (pc' := 7) K d1_6 ev6 rfl ?_
  refine oW.if_lt (pc' := 17) (pc3 := 10) K d1_7 (by decide) (by decide) rfl (fun q => absurd q (by rw [ev6]; exact h1)) (fun c7 => ?_)
  refine oW.dloadN (pc' := 11) K d1_10 rfl rfl ?_
  refine oW.isInf (W := 0) (pc' := 14) K (hw _ (List.mem_of_getElem? (i := 16) rfl)) (hw _ (List.mem_of_getElem? (i := 17) rfl)) (hw _ (List.mem_of_getElem? (i := 18) rfl)) (hw _ (List.mem_of_getElem? (i := 19) rfl)) (hw _ (List.mem_of_getElem? (i := 20) rfl)) (hw _ (List.mem_of_getElem? (i := 21) rfl)) (hw _ (List.mem_of_getElem? (i := 22) rfl)) (hw _ (List.mem_of_getElem? (i := 23) rfl)) (hw _ (List.mem_of_getElem? (i := 24) rfl)) hf1 d1_11 rfl (Nat.le_of_eq rfl) (by decide) (by decide) (by decide) (by decide) rfl ?_
  refine oW.if_eq (pc' := 31) (pc3 := 17) K d1_14 (by decide) (by decide) rfl (fun _ => ?_) (fun q => absurd q (by decide))
  refine oW.dloadN (pc' := 32) K d1_31 rfl rfl ?_
  refine oW.dconst0 (pc' := 33) K d1_32 rfl ?_
  obtain ⟨v33, ev33⟩ : ∃ z : Int32, z = cmpValue (FP.dcmp y (0 : UInt64)) .l := ⟨_, rfl⟩
  refine oW.dcmp (pc' := 34) K d1_33 ev33 rfl ?_
  refine oW.if_lt (pc' := 43) (pc3 := 37) K d1_34 (by decide) (by decide) rfl (fun q => absurd q (by rw [ev33]; exact h2)) (fun c34 => ?_)
  refine oW.dloadN (pc' := 38) K d1_37 rfl rfl ?_
  refine oW.dconst1 (pc' := 39) K d1_38 rfl ?_
  obtain ⟨v39, ev39⟩ : ∃ z : Int32, z = cmpValue (FP.dcmp y (4607182418800017408 : UInt64)) .g := ⟨_, rfl⟩
  refine oW.dcmp (pc' := 40) K d1_39 ev39 rfl ?_
  refine oW.if_le (pc' := 57) (pc3 := 43) K d1_40 (by decide) (by decide) rfl (fun c40 => ?_) (fun q => absurd q (by rw [ev39]; exact h3))
  refine oW.dload (pc' := 59) K d1_57 rfl rfl ?_
  refine oW.dconst0 (pc' := 60) K d1_59 rfl ?_
  obtain ⟨v60, ev60⟩ : ∃ z : Int32, z = cmpValue (FP.dcmp k3 (0 : UInt64)) .l := ⟨_, rfl⟩
  refine oW.dcmp (pc' := 61) K d1_60 ev60 rfl ?_
  refine oW.if_ge (pc' := 79) (pc3 := 64) K d1_61 (by decide) (by decide) rfl (fun c61 => ?_) (fun q => absurd q (by rw [ev60]; exact h4))
  refine oW.aloadN (pc' := 80) K d1_79 rfl rfl rfl ?_
  refine oW.dloadN (pc' := 81) K d1_80 rfl rfl ?_
  refine oW.putf (i := 0) (q := 0) (ty := .double) (ds' := [(o, .inr ("com/example/likely_match/likelymatch/ranking/Bm25", [("com/example/likely_match/likelymatch/ranking/Bm25", "k1", "D", (.double x)), ("com/example/likely_match/likelymatch/ranking/Bm25", "b", "D", (.double (0 : UInt64))), ("com/example/likely_match/likelymatch/ranking/Bm25", "idf", "Lcom/example/likely_match/likelymatch/ranking/Idf;", .null), ("com/example/likely_match/likelymatch/ranking/Bm25", "k3", "D", (.double (0 : UInt64)))]))]) (pc' := 84) K (hw _ (List.mem_of_getElem? (i := 25) rfl)) (Or.inr ⟨(hw _ (List.mem_of_getElem? (i := 26) rfl)), rfl, rfl⟩) (hw _ (List.mem_of_getElem? (i := 3) rfl)) (oAp_0 hw) d1_81 rfl rfl (by decide) rfl rfl rfl rfl ?_
  refine oW.aloadN (pc' := 85) K d1_84 rfl rfl rfl ?_
  refine oW.dloadN (pc' := 86) K d1_85 rfl rfl ?_
  refine oW.putf (i := 0) (q := 1) (ty := .double) (ds' := [(o, .inr ("com/example/likely_match/likelymatch/ranking/Bm25", [("com/example/likely_match/likelymatch/ranking/Bm25", "k1", "D", (.double x)), ("com/example/likely_match/likelymatch/ranking/Bm25", "b", "D", (.double y)), ("com/example/likely_match/likelymatch/ranking/Bm25", "idf", "Lcom/example/likely_match/likelymatch/ranking/Idf;", .null), ("com/example/likely_match/likelymatch/ranking/Bm25", "k3", "D", (.double (0 : UInt64)))]))]) (pc' := 89) K (hw _ (List.mem_of_getElem? (i := 27) rfl)) (Or.inr ⟨(hw _ (List.mem_of_getElem? (i := 28) rfl)), rfl, rfl⟩) (hw _ (List.mem_of_getElem? (i := 3) rfl)) (oAp_0 hw) d1_86 rfl rfl (by decide) rfl rfl rfl rfl ?_
  refine oW.aloadN (pc' := 90) K d1_89 rfl rfl rfl ?_
  refine oW.aload (pc' := 92) K d1_90 rfl rfl rfl ?_
  refine oW.ldcS (n := 12) (cells' := 2) (slots' := 16) (pc' := 94) K (hw _ (List.mem_of_getElem? (i := 29) rfl)) (oStr hw) d1_92 (by decide) (by decide) (by decide) (by decide) rfl rfl rfl ?_
  intro str92
  refine oW.callS (argsL := [(.ref ia), (.ref str92)]) (S := [(.ref o)]) (rm := ({ frames := 0, cells := 0, slots := 0, locals := 0 } : Room)) (W := 1) (cells' := 2) (slots' := 16) (pc' := 97) K (hw _ (List.mem_of_getElem? (i := 37) rfl)) (hw _ (List.mem_of_getElem? (i := 38) rfl)) (hw _ (List.mem_of_getElem? (i := 39) rfl)) (hw _ (List.mem_of_getElem? (i := 40) rfl)) (by decide) (own_rnn hw) (lenOf pd_0 rfl) d1_94 rfl rfl (Nat.le_of_eq rfl) (by decide) (by decide) (by decide) (by decide) rfl rfl rfl ?_
  rintro _ _ ⟨rfl, rfl⟩
  refine oW.castR (pc' := 100) K (hw _ (List.mem_of_getElem? (i := 41) rfl)) (fun h M => Ins.self (hE.ext M.1)) d1_97 rfl ?_
  refine oW.putf (i := 0) (q := 2) (ty := (.object "com/example/likely_match/likelymatch/ranking/Idf")) (ds' := [(o, .inr ("com/example/likely_match/likelymatch/ranking/Bm25", [("com/example/likely_match/likelymatch/ranking/Bm25", "k1", "D", (.double x)), ("com/example/likely_match/likelymatch/ranking/Bm25", "b", "D", (.double y)), ("com/example/likely_match/likelymatch/ranking/Bm25", "idf", "Lcom/example/likely_match/likelymatch/ranking/Idf;", (.ref ia)), ("com/example/likely_match/likelymatch/ranking/Bm25", "k3", "D", (.double (0 : UInt64)))]))]) (pc' := 103) K (hw _ (List.mem_of_getElem? (i := 43) rfl)) (Or.inr ⟨(hw _ (List.mem_of_getElem? (i := 44) rfl)), rfl, rfl⟩) (hw _ (List.mem_of_getElem? (i := 3) rfl)) (oAp_0 hw) d1_100 rfl rfl (by decide) rfl rfl rfl rfl ?_
  refine oW.aloadN (pc' := 104) K d1_103 rfl rfl rfl ?_
  refine oW.dload (pc' := 106) K d1_104 rfl rfl ?_
  refine oW.putf (i := 0) (q := 3) (ty := .double) (ds' := [(o, .inr ("com/example/likely_match/likelymatch/ranking/Bm25", [("com/example/likely_match/likelymatch/ranking/Bm25", "k1", "D", (.double x)), ("com/example/likely_match/likelymatch/ranking/Bm25", "b", "D", (.double y)), ("com/example/likely_match/likelymatch/ranking/Bm25", "idf", "Lcom/example/likely_match/likelymatch/ranking/Idf;", (.ref ia)), ("com/example/likely_match/likelymatch/ranking/Bm25", "k3", "D", (.double k3))]))]) (pc' := 109) K (hw _ (List.mem_of_getElem? (i := 45) rfl)) (Or.inr ⟨(hw _ (List.mem_of_getElem? (i := 46) rfl)), rfl, rfl⟩) (hw _ (List.mem_of_getElem? (i := 3) rfl)) (oAp_0 hw) d1_106 rfl rfl (by decide) rfl rfl rfl rfl ?_
  exact oW.retV K rfl d1_109 (by decide) (by decide) ⟨rfl, rfl⟩
theorem d6_0 : decode prog_43_method_4_code 0 = .ok (.dconst 1, 1) := by decide +kernel
theorem d6_1 : decode prog_43_method_4_code 1 = .ok (.aload_n 0, 1) := by decide +kernel
theorem d6_2 : decode prog_43_method_4_code 2 = .ok (.getfield 39, 3) := by decide +kernel
theorem d6_5 : decode prog_43_method_4_code 5 = .ok (.dsub, 1) := by decide +kernel
theorem d6_6 : decode prog_43_method_4_code 6 = .ok (.aload_n 0, 1) := by decide +kernel
theorem d6_7 : decode prog_43_method_4_code 7 = .ok (.getfield 39, 3) := by decide +kernel
theorem d6_10 : decode prog_43_method_4_code 10 = .ok (.iload 4, 2) := by decide +kernel
theorem d6_12 : decode prog_43_method_4_code 12 = .ok (.i2d, 1) := by decide +kernel
theorem d6_13 : decode prog_43_method_4_code 13 = .ok (.dmul, 1) := by decide +kernel
theorem d6_14 : decode prog_43_method_4_code 14 = .ok (.dload 5, 2) := by decide +kernel
theorem d6_16 : decode prog_43_method_4_code 16 = .ok (.ddiv, 1) := by decide +kernel
theorem d6_17 : decode prog_43_method_4_code 17 = .ok (.dadd, 1) := by decide +kernel
theorem d6_18 : decode prog_43_method_4_code 18 = .ok (.dstore 7, 2) := by decide +kernel
theorem d6_20 : decode prog_43_method_4_code 20 = .ok (.dload_n 1, 1) := by decide +kernel
theorem d6_21 : decode prog_43_method_4_code 21 = .ok (.aload_n 0, 1) := by decide +kernel
theorem d6_22 : decode prog_43_method_4_code 22 = .ok (.getfield 35, 3) := by decide +kernel
theorem d6_25 : decode prog_43_method_4_code 25 = .ok (.dconst 1, 1) := by decide +kernel
theorem d6_26 : decode prog_43_method_4_code 26 = .ok (.dadd, 1) := by decide +kernel
theorem d6_27 : decode prog_43_method_4_code 27 = .ok (.dmul, 1) := by decide +kernel
theorem d6_28 : decode prog_43_method_4_code 28 = .ok (.iload_n 3, 1) := by decide +kernel
theorem d6_29 : decode prog_43_method_4_code 29 = .ok (.i2d, 1) := by decide +kernel
theorem d6_30 : decode prog_43_method_4_code 30 = .ok (.dmul, 1) := by decide +kernel
theorem d6_31 : decode prog_43_method_4_code 31 = .ok (.aload_n 0, 1) := by decide +kernel
theorem d6_32 : decode prog_43_method_4_code 32 = .ok (.getfield 35, 3) := by decide +kernel
theorem d6_35 : decode prog_43_method_4_code 35 = .ok (.dload 7, 2) := by decide +kernel
theorem d6_37 : decode prog_43_method_4_code 37 = .ok (.dmul, 1) := by decide +kernel
theorem d6_38 : decode prog_43_method_4_code 38 = .ok (.iload_n 3, 1) := by decide +kernel
theorem d6_39 : decode prog_43_method_4_code 39 = .ok (.i2d, 1) := by decide +kernel
theorem d6_40 : decode prog_43_method_4_code 40 = .ok (.dadd, 1) := by decide +kernel
theorem d6_41 : decode prog_43_method_4_code 41 = .ok (.ddiv, 1) := by decide +kernel
theorem d6_42 : decode prog_43_method_4_code 42 = .ok (.dreturn, 1) := by decide +kernel
set_option maxRecDepth 65536 in
set_option maxHeartbeats 40000000 in
theorem own_weight {l : Launch} {Z : State} {a0 : Array Value} {h0 : Heap} (hw : ∀ d ∈ tables_1, d.before a0 Z = true) {o ia : Addr} {x y k3 iv av : UInt64} {tf dl : Int32} {E : Nat} {nB nK nI nT nD nP nW nA : Int} (hB : oQ nB 2 y) (hK : oQ nK 2 x) (hI : oQ nI 0 iv) (hA : oQ nA 0 av) (hT : tf.toInt = nT) (hD : dl.toInt = nD) (hW : ((2 ^ E : Nat) : Int) = nW) (hE : E ≤ 12) (hA0 : 0 < nA) (hdl : nD * nW = nP * nA) (hbd : oBd nB nK nI nT nD nP nW) :
    oCtr l Z h0 [] (⟨"com/example/likely_match/likelymatch/ranking/Bm25", "weight", "(DIID)D"⟩ : MethodName) prog_43_method_4_code 9 (some .double) ({ frames := 0, cells := 0, slots := 0, locals := 0 } : Room) #[(.ref o), (.double iv), (.int tf), (.int dl), (.double av)] [(o, .inr ("com/example/likely_match/likelymatch/ranking/Bm25", [("com/example/likely_match/likelymatch/ranking/Bm25", "k1", "D", (.double x)), ("com/example/likely_match/likelymatch/ranking/Bm25", "b", "D", (.double y)), ("com/example/likely_match/likelymatch/ranking/Bm25", "idf", "Lcom/example/likely_match/likelymatch/ranking/Idf;", (.ref ia)), ("com/example/likely_match/likelymatch/ranking/Bm25", "k3", "D", (.double k3))]))] (oVal fun w d => ∃ v N D : UInt64, w = .double v ∧ v = FP.ddiv N D ∧ oQ (nI * (nK + 4) * nT) (0 + 2 + 0) N ∧ oQ (nK * ((4 - nB) * nW + nB * nP) + nT * (nW * 16)) (2 + (2 + E)) D ∧ Jvm.Free.Fl.NoNaN64 v ∧ d = [(o, .inr ("com/example/likely_match/likelymatch/ranking/Bm25", [("com/example/likely_match/likelymatch/ranking/Bm25", "k1", "D", (.double x)), ("com/example/likely_match/likelymatch/ranking/Bm25", "b", "D", (.double y)), ("com/example/likely_match/likelymatch/ranking/Bm25", "idf", "Lcom/example/likely_match/likelymatch/ranking/Idf;", (.ref ia)), ("com/example/likely_match/likelymatch/ranking/Bm25", "k3", "D", (.double k3))]))]) := by
  refine oCtr.of (Ls := #[.val (.ref o), .val (.double iv), .second, .val (.int tf), .val (.int dl), .val (.double av), .second, .unset, .unset]) (plainFor_of_name (by first | (simp [plainName, overriddenIn]; done) | decide +kernel)) (fun m => by first | (simp [entryFrame, mkF, argsToLocals, Value.category]; done) | rfl) ?_
  intro p e s m below meth c K
  obtain ⟨b1, b2, b3, b4, b5, b6, b7, b8⟩ := oBd.x hbd
  obtain ⟨c1, c2, c3, c4, c5, c6, c7⟩ := hbd
  refine oW.dconst1 (pc' := 1) K d6_0 rfl ?_
  refine oW.aloadN (pc' := 2) K d6_1 rfl rfl rfl ?_
  refine oW.getf (i := 0) (q := 1) (pc' := 5) K (hw _ (List.mem_of_getElem? (i := 27) rfl)) d6_2 rfl rfl rfl ?_
  obtain ⟨v5, ev5⟩ : ∃ z : UInt64, z = FP.dsub (4607182418800017408 : UInt64) y := ⟨_, rfl⟩
  have qv5 : oQ (4 - nB) (2) v5 := oQ1.sub hB ev5 (by decide) (by omega)
  refine oW.dsub (pc' := 6) K d6_5 ev5 (qv5.nn) rfl ?_
  refine oW.aloadN (pc' := 7) K d6_6 rfl rfl rfl ?_
  refine oW.getf (i := 0) (q := 1) (pc' := 10) K (hw _ (List.mem_of_getElem? (i := 27) rfl)) d6_7 rfl rfl rfl ?_
  refine oW.iload (pc' := 12) K d6_10 rfl rfl ?_
  obtain ⟨v12, ev12⟩ : ∃ z : UInt64, z = FP.i2d dl := ⟨_, rfl⟩
  have qv12 : oQ (nD) (0) v12 := hD ▸ oQ.int (oI2D ev12)
  refine oW.i2d (pc' := 13) K d6_12 ev12 rfl ?_
  obtain ⟨v13, ev13⟩ : ∃ z : UInt64, z = FP.dmul y v12 := ⟨_, rfl⟩
  have qv13 : oQ (nB * nD) (2 + 0) v13 := hB.mul qv12 ev13 (by decide) (by omega)
  refine oW.dmul (pc' := 14) K d6_13 ev13 (qv13.nn) rfl ?_
  refine oW.dload (pc' := 16) K d6_14 rfl rfl ?_
  obtain ⟨v16, ev16⟩ : ∃ z : UInt64, z = FP.ddiv v13 av := ⟨_, rfl⟩
  have qv16 : oQ (nB * nP) (2 + E) v16 := qv13.divx hA ev16 (nB * nP) (2 + E) hA0 (by decide) (by decide) (by omega) (by omega) (oRatio hW hdl)
  refine oW.ddiv (pc' := 17) K d6_16 ev16 (qv16.nn) rfl ?_
  obtain ⟨v17, ev17⟩ : ∃ z : UInt64, z = FP.dadd v5 v16 := ⟨_, rfl⟩
  have qv17 : oQ ((4 - nB) * nW + nB * nP) (2 + E) v17 := (qv5.up E rfl (by omega) (by rw [hW])).add qv16 ev17 (by omega) (by omega)
  refine oW.dadd (pc' := 18) K d6_17 ev17 (qv17.nn) rfl ?_
  refine oW.dstore (Ls' := #[.val (.ref o), .val (.double iv), .second, .val (.int tf), .val (.int dl), .val (.double av), .second, .val (.double v17), .second]) (pc' := 20) K d6_18 rfl rfl ?_
  refine oW.dloadN (pc' := 21) K d6_20 rfl rfl ?_
  refine oW.aloadN (pc' := 22) K d6_21 rfl rfl rfl ?_
  refine oW.getf (i := 0) (q := 0) (pc' := 25) K (hw _ (List.mem_of_getElem? (i := 25) rfl)) d6_22 rfl rfl rfl ?_
  refine oW.dconst1 (pc' := 26) K d6_25 rfl ?_
  obtain ⟨v26, ev26⟩ : ∃ z : UInt64, z = FP.dadd x (4607182418800017408 : UInt64) := ⟨_, rfl⟩
  have qv26 : oQ (nK + 4) (2) v26 := hK.add oQ1 ev26 (by decide) (by omega)
  refine oW.dadd (pc' := 27) K d6_26 ev26 (qv26.nn) rfl ?_
  obtain ⟨v27, ev27⟩ : ∃ z : UInt64, z = FP.dmul iv v26 := ⟨_, rfl⟩
  have qv27 : oQ (nI * (nK + 4)) (0 + 2) v27 := hI.mul qv26 ev27 (by decide) (by omega)
  refine oW.dmul (pc' := 28) K d6_27 ev27 (qv27.nn) rfl ?_
  refine oW.iloadN (pc' := 29) K d6_28 rfl rfl ?_
  obtain ⟨v29, ev29⟩ : ∃ z : UInt64, z = FP.i2d tf := ⟨_, rfl⟩
  have qv29 : oQ (nT) (0) v29 := hT ▸ oQ.int (oI2D ev29)
  refine oW.i2d (pc' := 30) K d6_29 ev29 rfl ?_
  obtain ⟨v30, ev30⟩ : ∃ z : UInt64, z = FP.dmul v27 v29 := ⟨_, rfl⟩
  have qv30 : oQ (nI * (nK + 4) * nT) (0 + 2 + 0) v30 := qv27.mul qv29 ev30 (by decide) (by omega)
  refine oW.dmul (pc' := 31) K d6_30 ev30 (qv30.nn) rfl ?_
  refine oW.aloadN (pc' := 32) K d6_31 rfl rfl rfl ?_
  refine oW.getf (i := 0) (q := 0) (pc' := 35) K (hw _ (List.mem_of_getElem? (i := 25) rfl)) d6_32 rfl rfl rfl ?_
  refine oW.dload (pc' := 37) K d6_35 rfl rfl ?_
  obtain ⟨v37, ev37⟩ : ∃ z : UInt64, z = FP.dmul x v17 := ⟨_, rfl⟩
  have qv37 : oQ (nK * ((4 - nB) * nW + nB * nP)) (2 + (2 + E)) v37 := hK.mul qv17 ev37 (by omega) (by omega)
  refine oW.dmul (pc' := 38) K d6_37 ev37 (qv37.nn) rfl ?_
  refine oW.iloadN (pc' := 39) K d6_38 rfl rfl ?_
  obtain ⟨v39, ev39⟩ : ∃ z : UInt64, z = FP.i2d tf := ⟨_, rfl⟩
  have qv39 : oQ (nT) (0) v39 := hT ▸ oQ.int (oI2D ev39)
  refine oW.i2d (pc' := 40) K d6_39 ev39 rfl ?_
  obtain ⟨v40, ev40⟩ : ∃ z : UInt64, z = FP.dadd v37 v39 := ⟨_, rfl⟩
  have qv40 : oQ (nK * ((4 - nB) * nW + nB * nP) + nT * (nW * 16)) (2 + (2 + E)) v40 := qv37.add (qv39.up (2 + (2 + E)) (Nat.zero_add _) (by omega) (oP16 hW)) ev40 (by omega) (by omega)
  refine oW.dadd (pc' := 41) K d6_40 ev40 (qv40.nn) rfl ?_
  obtain ⟨v41, ev41⟩ : ∃ z : UInt64, z = FP.ddiv v30 v40 := ⟨_, rfl⟩
  have nnv41 := qv30.divnn qv40 ev41 (by omega) (by decide) (by omega)
  refine oW.ddiv (pc' := 42) K d6_41 ev41 (nnv41) rfl ?_
  exact oW.retD K rfl d6_42 (by decide) (by decide) ⟨_, rfl, _, _, _, rfl, ev41, qv30, qv40, nnv41, rfl⟩
theorem pd_1 : parseMethodDescriptor "(DDLcom/example/likely_match/likelymatch/ranking/Idf;D)V" = some ⟨[.double, .double, (.object "com/example/likely_match/likelymatch/ranking/Idf"), .double], none⟩ := by decide +kernel
theorem pd_2 : parseMethodDescriptor "(DIID)D" = some ⟨[.double, .int, .int, .double], some .double⟩ := by decide +kernel
set_option maxRecDepth 65536 in
set_option maxHeartbeats 40000000 in
theorem own_law {l : Launch} {Z : State} {a0 : Array Value} {h0 : Heap} (hw : ∀ d ∈ tables_1, d.before a0 Z = true) {ia : Addr} (hSt : Sta Z h0 "com/example/likely_match/likelymatch/ranking/Idf" "PLAIN" "Lcom/example/likely_match/likelymatch/ranking/Idf;" (.ref ia)) (hEx : Exa Z h0 ia "com/example/likely_match/likelymatch/ranking/Idf") (p0 : Int32) (p1 : Int32) (p2 : Int32) (p3 : Int32) (p4 : Int32) (p5 : Int32) :
    oCtr l Z h0 tables_1 x code maxLocals ret room_1 #[(.int p0), (.int p1), (.int p2), (.int p3), (.int p4), (.int p5)] [] (oVal fun w _ => w = .int 1) := by
  refine oCtr.of (Ls := #[.val (.int p0), .val (.int p1), .val (.int p2), .val (.int p3), .val (.int p4), .val (.int p5), .unset, .unset, .unset, .unset, .unset, .unset, .unset, .unset, .unset, .unset, .unset, .unset, .unset, .unset, .unset, .unset, .unset, .unset, .unset, .unset]) (plainFor_of_name (by first | (simp [plainName, overriddenIn]; done) | decide +kernel)) (fun m => by first | (simp [entryFrame, mkF, argsToLocals, Value.category, maxLocals]; done) | rfl) ?_
  intro p e s m below meth c K
  refine oW.iloadN (pc' := 1) K at_0 rfl rfl ?_
  refine oW.bipush (v := (21 : Int32)) (pc' := 3) K at_1 (by decide) rfl ?_
  obtain ⟨v3, ev3⟩ : ∃ z : Int32, z = p0 >>> ((21 : Int32) &&& 31) := ⟨_, rfl⟩
  refine oW.ishr (pc' := 4) K at_3 ev3 rfl ?_
  refine oW.istore (Ls' := #[.val (.int p0), .val (.int p1), .val (.int p2), .val (.int p3), .val (.int p4), .val (.int p5), .val (.int v3), .unset, .unset, .unset, .unset, .unset, .unset, .unset, .unset, .unset, .unset, .unset, .unset, .unset, .unset, .unset, .unset, .unset, .unset, .unset]) (pc' := 6) K at_4 rfl rfl ?_
  refine oW.iloadN (pc' := 7) K at_6 rfl rfl ?_
  refine oW.sipush (v := (255 : Int32)) (pc' := 10) K at_7 (by decide) rfl ?_
  obtain ⟨v10, ev10⟩ : ∃ z : Int32, z = p1 &&& (255 : Int32) := ⟨_, rfl⟩
  refine oW.iand (pc' := 11) K at_10 ev10 rfl ?_
  refine oW.istore (Ls' := #[.val (.int p0), .val (.int p1), .val (.int p2), .val (.int p3), .val (.int p4), .val (.int p5), .val (.int v3), .val (.int v10), .unset, .unset, .unset, .unset, .unset, .unset, .unset, .unset, .unset, .unset, .unset, .unset, .unset, .unset, .unset, .unset, .unset, .unset]) (pc' := 13) K at_11 rfl rfl ?_
  refine oW.iloadN (pc' := 14) K at_13 rfl rfl ?_
  refine oW.ldcI (pc' := 16) K (hw _ (List.mem_of_getElem? (i := 0) rfl)) at_14 rfl ?_
  obtain ⟨v16, ev16⟩ : ∃ z : Int32, z = p2 &&& (2147483647 : Int32) := ⟨_, rfl⟩
  refine oW.iand (pc' := 17) K at_16 ev16 rfl ?_
  refine oW.iconst (v := (5 : Int32)) (pc' := 18) K at_17 (by decide) rfl ?_
  obtain ⟨v18, ev18⟩ : ∃ z : Int32, z = v16 % (5 : Int32) := ⟨_, rfl⟩
  refine oW.irem (pc' := 19) K at_18 (by decide) ev18 rfl ?_
  refine oW.istore (Ls' := #[.val (.int p0), .val (.int p1), .val (.int p2), .val (.int p3), .val (.int p4), .val (.int p5), .val (.int v3), .val (.int v10), .val (.int v18), .unset, .unset, .unset, .unset, .unset, .unset, .unset, .unset, .unset, .unset, .unset, .unset, .unset, .unset, .unset, .unset, .unset]) (pc' := 21) K at_19 rfl rfl ?_
  refine oW.iloadN (pc' := 22) K at_21 rfl rfl ?_
  refine oW.ldcI (pc' := 24) K (hw _ (List.mem_of_getElem? (i := 1) rfl)) at_22 rfl ?_
  obtain ⟨v24, ev24⟩ : ∃ z : Int32, z = p3 &&& (65535 : Int32) := ⟨_, rfl⟩
  refine oW.iand (pc' := 25) K at_24 ev24 rfl ?_
  refine oW.iconst (v := (1 : Int32)) (pc' := 26) K at_25 (by decide) rfl ?_
  obtain ⟨v26, ev26⟩ : ∃ z : Int32, z = v24 + (1 : Int32) := ⟨_, rfl⟩
  refine oW.iadd (pc' := 27) K at_26 ev26 rfl ?_
  refine oW.istore (Ls' := #[.val (.int p0), .val (.int p1), .val (.int p2), .val (.int p3), .val (.int p4), .val (.int p5), .val (.int v3), .val (.int v10), .val (.int v18), .val (.int v26), .unset, .unset, .unset, .unset, .unset, .unset, .unset, .unset, .unset, .unset, .unset, .unset, .unset, .unset, .unset, .unset]) (pc' := 29) K at_27 rfl rfl ?_
  refine oW.join (F := fun z : Int32 × Int32 × Int32 × UInt64 × Slot × Slot => ∃ (E : Nat) (nP nD nA nW : Int), z.1.toInt = (E : Int) ∧ E ≤ 12 ∧ z.2.1.toInt = nP ∧ z.2.2.1.toInt = nD ∧ oQ nA 0 z.2.2.2.1 ∧ 0 < nA ∧ ((2 ^ E : Nat) : Int) = nW ∧ nD * nW = nP * nA ∧ (0 ≤ nD ∧ nD ≤ 1048576) ∧ (0 ≤ nP ∧ nP ≤ 1048576) ∧ (1 ≤ nW ∧ nW ≤ 4096) ∧ oDead z.2.2.2.2.1 ∧ oDead z.2.2.2.2.2) (pcj := 105) (Lf := fun z => #[.val (.int p0), .val (.int p1), .val (.int p2), .val (.int p3), .val (.int p4), .val (.int p5), .val (.int v3), .val (.int v10), .val (.int v18), .val (.int v26), .val (.int z.1), .val (.int z.2.1), .val (.int z.2.2.1), .val (.double z.2.2.2.1), .second, z.2.2.2.2.1, z.2.2.2.2.2, .unset, .unset, .unset, .unset, .unset, .unset, .unset, .unset, .unset]) (Sf := fun z => []) (dsf := fun z => []) ?_ ?_
  · intro J
    refine oW.iload (pc' := 31) K at_29 rfl rfl ?_
    refine oW.iconst (v := (1 : Int32)) (pc' := 32) K at_31 (by decide) rfl ?_
    obtain ⟨v32, ev32⟩ : ∃ z : Int32, z = p5 &&& (1 : Int32) := ⟨_, rfl⟩
    refine oW.iand (pc' := 33) K at_32 ev32 rfl ?_
    refine oW.if_ne (pc' := 66) (pc3 := 36) K at_33 (by decide) (by decide) rfl (fun c33 => ?_) (fun c33 => ?_)
    · refine oW.iload (pc' := 68) K at_66 rfl rfl ?_
      refine oW.iconst (v := (1 : Int32)) (pc' := 69) K at_68 (by decide) rfl ?_
      obtain ⟨v69, ev69⟩ : ∃ z : Int32, z = XT.ushr p5 (1 : Int32) := ⟨_, rfl⟩
      refine oW.iushr (pc' := 70) K at_69 ev69 rfl ?_
      refine oW.sipush (v := (4095 : Int32)) (pc' := 73) K at_70 (by decide) rfl ?_
      obtain ⟨v73, ev73⟩ : ∃ z : Int32, z = v69 &&& (4095 : Int32) := ⟨_, rfl⟩
      refine oW.iand (pc' := 74) K at_73 ev73 rfl ?_
      refine oW.iconst (v := (1 : Int32)) (pc' := 75) K at_74 (by decide) rfl ?_
      obtain ⟨v75, ev75⟩ : ∃ z : Int32, z = v73 + (1 : Int32) := ⟨_, rfl⟩
      refine oW.iadd (pc' := 76) K at_75 ev75 rfl ?_
      refine oW.istore (Ls' := #[.val (.int p0), .val (.int p1), .val (.int p2), .val (.int p3), .val (.int p4), .val (.int p5), .val (.int v3), .val (.int v10), .val (.int v18), .val (.int v26), .unset, .unset, .unset, .unset, .unset, .val (.int v75), .unset, .unset, .unset, .unset, .unset, .unset, .unset, .unset, .unset, .unset]) (pc' := 78) K at_76 rfl rfl ?_
      refine oW.iload (pc' := 80) K at_78 rfl rfl ?_
      refine oW.sipush (v := (255 : Int32)) (pc' := 83) K at_80 (by decide) rfl ?_
      obtain ⟨v83, ev83⟩ : ∃ z : Int32, z = p4 &&& (255 : Int32) := ⟨_, rfl⟩
      refine oW.iand (pc' := 84) K at_83 ev83 rfl ?_
      refine oW.istore (Ls' := #[.val (.int p0), .val (.int p1), .val (.int p2), .val (.int p3), .val (.int p4), .val (.int p5), .val (.int v3), .val (.int v10), .val (.int v18), .val (.int v26), .unset, .unset, .unset, .unset, .unset, .val (.int v75), .val (.int v83), .unset, .unset, .unset, .unset, .unset, .unset, .unset, .unset, .unset]) (pc' := 86) K at_84 rfl rfl ?_
      refine oW.iconst (v := (0 : Int32)) (pc' := 87) K at_86 (by decide) rfl ?_
      refine oW.istore (Ls' := #[.val (.int p0), .val (.int p1), .val (.int p2), .val (.int p3), .val (.int p4), .val (.int p5), .val (.int v3), .val (.int v10), .val (.int v18), .val (.int v26), .val (.int (0 : Int32)), .unset, .unset, .unset, .unset, .val (.int v75), .val (.int v83), .unset, .unset, .unset, .unset, .unset, .unset, .unset, .unset, .unset]) (pc' := 89) K at_87 rfl rfl ?_
      refine oW.iload (pc' := 91) K at_89 rfl rfl ?_
      refine oW.istore (Ls' := #[.val (.int p0), .val (.int p1), .val (.int p2), .val (.int p3), .val (.int p4), .val (.int p5), .val (.int v3), .val (.int v10), .val (.int v18), .val (.int v26), .val (.int (0 : Int32)), .val (.int v83), .unset, .unset, .unset, .val (.int v75), .val (.int v83), .unset, .unset, .unset, .unset, .unset, .unset, .unset, .unset, .unset]) (pc' := 93) K at_91 rfl rfl ?_
      refine oW.iload (pc' := 95) K at_93 rfl rfl ?_
      refine oW.iload (pc' := 97) K at_95 rfl rfl ?_
      obtain ⟨v97, ev97⟩ : ∃ z : Int32, z = v75 * v83 := ⟨_, rfl⟩
      refine oW.imul (pc' := 98) K at_97 ev97 rfl ?_
      refine oW.istore (Ls' := #[.val (.int p0), .val (.int p1), .val (.int p2), .val (.int p3), .val (.int p4), .val (.int p5), .val (.int v3), .val (.int v10), .val (.int v18), .val (.int v26), .val (.int (0 : Int32)), .val (.int v83), .val (.int v97), .unset, .unset, .val (.int v75), .val (.int v83), .unset, .unset, .unset, .unset, .unset, .unset, .unset, .unset, .unset]) (pc' := 100) K at_98 rfl rfl ?_
      refine oW.iload (pc' := 102) K at_100 rfl rfl ?_
      obtain ⟨v102, ev102⟩ : ∃ z : UInt64, z = FP.i2d v75 := ⟨_, rfl⟩
      refine oW.i2d (pc' := 103) K at_102 ev102 rfl ?_
      refine oW.dstore (Ls' := #[.val (.int p0), .val (.int p1), .val (.int p2), .val (.int p3), .val (.int p4), .val (.int p5), .val (.int v3), .val (.int v10), .val (.int v18), .val (.int v26), .val (.int (0 : Int32)), .val (.int v83), .val (.int v97), .val (.double v102), .second, .val (.int v75), .val (.int v83), .unset, .unset, .unset, .unset, .unset, .unset, .unset, .unset, .unset]) (pc' := 105) K at_103 rfl rfl ?_
      exact J ((0 : Int32), v83, v97, v102, (.val (.int v75) : Slot), (.val (.int v83) : Slot)) (by
      dsimp only
      have r1 := oMaskR 4095 (by decide) ev73
      have r2 := oIadd ev75 (by have := oTs; omega)
      have r3 := oMaskR 255 (by decide) ev83
      have r0 := oTs.2.1
      have r4 := oMB (show 0 ≤ v75.toInt ∧ v75.toInt ≤ 4096 by omega) r3
      have r5 := oImul ev97 (by omega)
      exact ⟨0, _, _, _, 1, by decide, by decide, rfl, rfl, oQ.int (oI2D ev102), by omega, rfl, by rw [r5, Int.mul_one, Int.mul_comm], by omega, by omega, by omega, Or.inr ⟨_, rfl⟩, Or.inr ⟨_, rfl⟩⟩)
    · refine oW.iload (pc' := 38) K at_36 rfl rfl ?_
      refine oW.iconst (v := (1 : Int32)) (pc' := 39) K at_38 (by decide) rfl ?_
      obtain ⟨v39, ev39⟩ : ∃ z : Int32, z = XT.ushr p5 (1 : Int32) := ⟨_, rfl⟩
      refine oW.iushr (pc' := 40) K at_39 ev39 rfl ?_
      refine oW.bipush (v := (13 : Int32)) (pc' := 42) K at_40 (by decide) rfl ?_
      obtain ⟨v42, ev42⟩ : ∃ z : Int32, z = v39 % (13 : Int32) := ⟨_, rfl⟩
      refine oW.irem (pc' := 43) K at_42 (by decide) ev42 rfl ?_
      refine oW.istore (Ls' := #[.val (.int p0), .val (.int p1), .val (.int p2), .val (.int p3), .val (.int p4), .val (.int p5), .val (.int v3), .val (.int v10), .val (.int v18), .val (.int v26), .val (.int v42), .unset, .unset, .unset, .unset, .unset, .unset, .unset, .unset, .unset, .unset, .unset, .unset, .unset, .unset, .unset]) (pc' := 45) K at_43 rfl rfl ?_
      refine oW.iload (pc' := 47) K at_45 rfl rfl ?_
      refine oW.ldcI (pc' := 49) K (hw _ (List.mem_of_getElem? (i := 52) rfl)) at_47 rfl ?_
      obtain ⟨v49, ev49⟩ : ∃ z : Int32, z = p4 &&& (1048575 : Int32) := ⟨_, rfl⟩
      refine oW.iand (pc' := 50) K at_49 ev49 rfl ?_
      refine oW.istore (Ls' := #[.val (.int p0), .val (.int p1), .val (.int p2), .val (.int p3), .val (.int p4), .val (.int p5), .val (.int v3), .val (.int v10), .val (.int v18), .val (.int v26), .val (.int v42), .unset, .val (.int v49), .unset, .unset, .unset, .unset, .unset, .unset, .unset, .unset, .unset, .unset, .unset, .unset, .unset]) (pc' := 52) K at_50 rfl rfl ?_
      refine oW.iload (pc' := 54) K at_52 rfl rfl ?_
      refine oW.istore (Ls' := #[.val (.int p0), .val (.int p1), .val (.int p2), .val (.int p3), .val (.int p4), .val (.int p5), .val (.int v3), .val (.int v10), .val (.int v18), .val (.int v26), .val (.int v42), .val (.int v49), .val (.int v49), .unset, .unset, .unset, .unset, .unset, .unset, .unset, .unset, .unset, .unset, .unset, .unset, .unset]) (pc' := 56) K at_54 rfl rfl ?_
      refine oW.iconst (v := (1 : Int32)) (pc' := 57) K at_56 (by decide) rfl ?_
      refine oW.iload (pc' := 59) K at_57 rfl rfl ?_
      obtain ⟨v59, ev59⟩ : ∃ z : Int32, z = (1 : Int32) <<< (v42 &&& 31) := ⟨_, rfl⟩
      refine oW.ishl (pc' := 60) K at_59 ev59 rfl ?_
      obtain ⟨v60, ev60⟩ : ∃ z : UInt64, z = FP.i2d v59 := ⟨_, rfl⟩
      refine oW.i2d (pc' := 61) K at_60 ev60 rfl ?_
      refine oW.dstore (Ls' := #[.val (.int p0), .val (.int p1), .val (.int p2), .val (.int p3), .val (.int p4), .val (.int p5), .val (.int v3), .val (.int v10), .val (.int v18), .val (.int v26), .val (.int v42), .val (.int v49), .val (.int v49), .val (.double v60), .second, .unset, .unset, .unset, .unset, .unset, .unset, .unset, .unset, .unset, .unset, .unset]) (pc' := 63) K at_61 rfl rfl ?_
      refine oW.goto (pc' := 105) K at_63 (by decide) (by decide) ?_
      exact J (v42, v49, v49, v60, (.unset : Slot), (.unset : Slot)) (by
      dsimp only
      have r1 := oUshr1 ev39
      have r2 := oRem 13 ev42 (by decide) r1.1
      have r3 := oMaskR 1048575 (by decide) ev49
      obtain ⟨E, hEe⟩ : ∃ E : Nat, v42.toInt = (E : Int) := ⟨v42.toInt.toNat, by omega⟩
      have r4 := oShlI hEe (by omega) ev59
      have r5 : 2 ^ E ≤ 2 ^ 12 := Nat.pow_le_pow_right (by decide) (by omega)
      have r6 := Nat.two_pow_pos E
      exact ⟨E, _, _, _, _, hEe, by omega, rfl, rfl, oQ.int (oI2D ev60), by rw [r4]; omega, rfl, by rw [r4], by omega, by omega, by omega, Or.inl rfl, Or.inl rfl⟩)
  rintro ⟨ee, pp, dd, aa, s1, s2⟩ hee
  dsimp only at hee ⊢
  obtain ⟨E, nP, nD, nA, nW, f1, f2, f3, f4, f5, f6, hW, f8, f9, f10, f11, dd1, dd2⟩ := hee
  have g1 := oShr21 ev3
  have g2 := oMaskR 255 (by decide) ev10
  have g3 := oMaskR 2147483647 (by decide) ev16
  have g4 := oRem 5 ev18 (by decide) g3.1
  have g5 := oMaskR 65535 (by decide) ev24
  have g6 := oIadd ev26 (by have := oTs; omega)
  have g7 := oTs.2.1
  obtain ⟨nI, hnI⟩ : ∃ z : Int, v3.toInt = z := ⟨_, rfl⟩
  obtain ⟨nK, hnK⟩ : ∃ z : Int, v10.toInt = z := ⟨_, rfl⟩
  obtain ⟨nB, hnB⟩ : ∃ z : Int, v18.toInt = z := ⟨_, rfl⟩
  obtain ⟨nT, hnT⟩ : ∃ z : Int, v26.toInt = z := ⟨_, rfl⟩
  have hbd : oBd nB nK nI nT nD nP nW := ⟨by omega, by omega, by omega, by omega, by omega, by omega, by omega⟩
  obtain ⟨b1, b2, b3, b4, b5, b6, b7, b8⟩ := oBd.x hbd
  obtain ⟨c1, c2, c3, c4, c5, c6, c7⟩ := hbd
  have hbd : oBd nB nK nI nT nD nP nW := ⟨c1, c2, c3, c4, c5, c6, c7⟩
  clear g1 g2 g3 g4 g5 g6 g7
  refine oW.new (fs := [("com/example/likely_match/likelymatch/ranking/Bm25", "k1", "D", (.double (0 : UInt64))), ("com/example/likely_match/likelymatch/ranking/Bm25", "b", "D", (.double (0 : UInt64))), ("com/example/likely_match/likelymatch/ranking/Bm25", "idf", "Lcom/example/likely_match/likelymatch/ranking/Idf;", .null), ("com/example/likely_match/likelymatch/ranking/Bm25", "k3", "D", (.double (0 : UInt64)))]) (cells' := 1) (slots' := 4) (dsf := fun z => [(z, .inr ("com/example/likely_match/likelymatch/ranking/Bm25", [("com/example/likely_match/likelymatch/ranking/Bm25", "k1", "D", (.double (0 : UInt64))), ("com/example/likely_match/likelymatch/ranking/Bm25", "b", "D", (.double (0 : UInt64))), ("com/example/likely_match/likelymatch/ranking/Bm25", "idf", "Lcom/example/likely_match/likelymatch/ranking/Idf;", .null), ("com/example/likely_match/likelymatch/ranking/Bm25", "k3", "D", (.double (0 : UInt64)))]))]) (pc' := 108) K (hw _ (List.mem_of_getElem? (i := 2) rfl)) (hw _ (List.mem_of_getElem? (i := 3) rfl)) (hw _ (List.mem_of_getElem? (i := 4) rfl)) (oLd_0 hw) at_105 (by decide) (by decide) rfl rfl (fun _ => rfl) rfl ?_
  intro a105 ha105
  refine oW.dup (pc' := 109) K at_108 rfl rfl ?_
  refine oW.iload (pc' := 111) K at_109 rfl rfl ?_
  obtain ⟨v111, ev111⟩ : ∃ z : UInt64, z = FP.i2d v10 := ⟨_, rfl⟩
  have qv111 : oQ (nK) 0 v111 := oQ.int (hnK ▸ oI2D ev111)
  refine oW.i2d (pc' := 112) K at_111 ev111 rfl ?_
  refine oW.ldc2D (pc' := 115) K (hw _ (List.mem_of_getElem? (i := 5) rfl)) at_112 rfl ?_
  obtain ⟨v115, ev115⟩ : ∃ z : UInt64, z = FP.ddiv v111 (4616189618054758400 : UInt64) := ⟨_, rfl⟩
  have qv115 : oQ (nK) 2 v115 := qv111.divx (oQ.int (oDK 4 (by decide +kernel) (by decide))) ev115 _ 2 (by decide) (by decide) (by decide) (by decide) (by omega) (by show _ * 1 * 4 = _ * (4 * 1); omega)
  refine oW.ddiv (pc' := 116) K at_115 ev115 (qv115.nn) rfl ?_
  refine oW.iload (pc' := 118) K at_116 rfl rfl ?_
  obtain ⟨v118, ev118⟩ : ∃ z : UInt64, z = FP.i2d v18 := ⟨_, rfl⟩
  have qv118 : oQ (nB) 0 v118 := oQ.int (hnB ▸ oI2D ev118)
  refine oW.i2d (pc' := 119) K at_118 ev118 rfl ?_
  refine oW.ldc2D (pc' := 122) K (hw _ (List.mem_of_getElem? (i := 5) rfl)) at_119 rfl ?_
  obtain ⟨v122, ev122⟩ : ∃ z : UInt64, z = FP.ddiv v118 (4616189618054758400 : UInt64) := ⟨_, rfl⟩
  have qv122 : oQ (nB) 2 v122 := qv118.divx (oQ.int (oDK 4 (by decide +kernel) (by decide))) ev122 _ 2 (by decide) (by decide) (by decide) (by decide) (by omega) (by show _ * 1 * 4 = _ * (4 * 1); omega)
  refine oW.ddiv (pc' := 123) K at_122 ev122 (qv122.nn) rfl ?_
  refine oW.getst (pc' := 126) K (hw _ (List.mem_of_getElem? (i := 6) rfl)) hSt at_123 rfl ?_
  refine oW.ldc2D (pc' := 129) K (hw _ (List.mem_of_getElem? (i := 9) rfl)) at_126 rfl ?_
  refine oW.callI (a := a105) (argsL := [(.double v115), (.double v122), (.ref ia), (.double (9218868437227405312 : UInt64))]) (S := [(.ref a105)]) (rm := ({ frames := 2, cells := 2, slots := 16, locals := 60 } : Room)) (W := 1) (cells' := 3) (slots' := 20) (pc' := 132) K rfl (hw _ (List.mem_of_getElem? (i := 10) rfl)) (hw _ (List.mem_of_getElem? (i := 11) rfl)) (hw _ (List.mem_of_getElem? (i := 4) rfl)) (hw _ (List.mem_of_getElem? (i := 12) rfl)) (by decide) (own_init hw hEx qv115.fin64 (fun q => absurd ((qv115.cmp (oQ0 2) rfl).1.mp q) (by omega)) (fun q => absurd ((qv122.cmp (oQ0 2) rfl).1.mp q) (by omega)) (fun q => absurd ((qv122.cmp oQ1 rfl).2.2.mp q) (by omega)) (by decide +kernel)) (lenOf pd_1 rfl) at_129 rfl rfl (Nat.le_of_eq rfl) (by decide) (by decide) (by decide) (by decide) rfl rfl rfl ?_
  rintro _ rfl
  refine oW.astore (Ls' := #[.val (.int p0), .val (.int p1), .val (.int p2), .val (.int p3), .val (.int p4), .val (.int p5), .val (.int v3), .val (.int v10), .val (.int v18), .val (.int v26), .val (.int ee), .val (.int pp), .val (.int dd), .val (.double aa), .second, .val (.ref a105), s2, .unset, .unset, .unset, .unset, .unset, .unset, .unset, .unset, .unset]) (pc' := 134) K at_132 rfl (oStoreDead rfl dd1 rfl) rfl ?_
  refine oW.aload (pc' := 136) K at_134 rfl rfl rfl ?_
  refine oW.iload (pc' := 138) K at_136 rfl rfl ?_
  obtain ⟨v138, ev138⟩ : ∃ z : UInt64, z = FP.i2d v3 := ⟨_, rfl⟩
  have qv138 : oQ (nI) 0 v138 := oQ.int (hnI ▸ oI2D ev138)
  refine oW.i2d (pc' := 139) K at_138 ev138 rfl ?_
  refine oW.iload (pc' := 141) K at_139 rfl rfl ?_
  refine oW.iload (pc' := 143) K at_141 rfl rfl ?_
  refine oW.dload (pc' := 145) K at_143 rfl rfl ?_
  skip
  refine oW.callV (a := a105) (argsL := [(.double v138), (.int v26), (.int dd), (.double aa)]) (S := []) (rm := ({ frames := 0, cells := 0, slots := 0, locals := 0 } : Room)) (W := 0) (cells' := 3) (slots' := 20) (pc' := 148) K (hw _ (List.mem_of_getElem? (i := 47) rfl)) (hw _ (List.mem_of_getElem? (i := 48) rfl)) (hw _ (List.mem_of_getElem? (i := 50) rfl)) (hw _ (List.mem_of_getElem? (i := 49) rfl)) (hw _ (List.mem_of_getElem? (i := 51) rfl)) (hw _ (List.mem_of_getElem? (i := 4) rfl)) (by decide) (oNF (hw _ (List.mem_of_getElem? (i := 50) rfl))) (fun _ M => oMem.exa (i := 0) rfl M) (own_weight hw qv122 qv115 qv138 f5 hnT f4 hW f2 f6 f8 hbd) (lenOf pd_2 rfl) at_145 rfl rfl (Nat.le_of_eq rfl) (by decide) (by decide) (by decide) (by decide) rfl rfl rfl ?_
  rintro _ _ ⟨wv, wN, wD, rfl, ew, qN, qD, nnw, rfl⟩
  refine oW.dstore (Ls' := #[.val (.int p0), .val (.int p1), .val (.int p2), .val (.int p3), .val (.int p4), .val (.int p5), .val (.int v3), .val (.int v10), .val (.int v18), .val (.int v26), .val (.int ee), .val (.int pp), .val (.int dd), .val (.double aa), .second, .val (.ref a105), .val (.double wv), .second, .unset, .unset, .unset, .unset, .unset, .unset, .unset, .unset]) (pc' := 150) K at_148 (oStoreDead rfl dd2 rfl) rfl ?_
  refine oW.iload (pc' := 152) K at_150 rfl rfl ?_
  obtain ⟨v152, ev152⟩ : ∃ z : Int64, z = v3.toInt64 := ⟨_, rfl⟩
  refine oW.i2l (pc' := 153) K at_152 ev152 rfl ?_
  have tv152 : v152.toInt = nI := (oI2L ev152).trans hnI
  refine oW.iload (pc' := 155) K at_153 rfl rfl ?_
  refine oW.iconst (v := (4 : Int32)) (pc' := 156) K at_155 (by decide) rfl ?_
  obtain ⟨v156, ev156⟩ : ∃ z : Int32, z = v10 + (4 : Int32) := ⟨_, rfl⟩
  refine oW.iadd (pc' := 157) K at_156 ev156 rfl ?_
  have tv156 : v156.toInt = nK + 4 := by
    have h := oIadd ev156 (by rw [hnK, (by decide : ((4 : Int32)).toInt = 4)]; omega)
    rw [hnK, (by decide : ((4 : Int32)).toInt = 4)] at h; exact h
  obtain ⟨v157, ev157⟩ : ∃ z : Int64, z = v156.toInt64 := ⟨_, rfl⟩
  refine oW.i2l (pc' := 158) K at_157 ev157 rfl ?_
  have tv157 : v157.toInt = nK + 4 := (oI2L ev157).trans tv156
  obtain ⟨v158, ev158⟩ : ∃ z : Int64, z = v152 * v157 := ⟨_, rfl⟩
  refine oW.lmul (pc' := 159) K at_158 ev158 rfl ?_
  have tv158 : v158.toInt = nI * (nK + 4) := by
    have h := oLmul ev158 (by rw [tv152, tv157]; omega)
    rw [tv152, tv157] at h; exact h
  refine oW.iload (pc' := 161) K at_159 rfl rfl ?_
  obtain ⟨v161, ev161⟩ : ∃ z : Int64, z = v26.toInt64 := ⟨_, rfl⟩
  refine oW.i2l (pc' := 162) K at_161 ev161 rfl ?_
  have tv161 : v161.toInt = nT := (oI2L ev161).trans hnT
  obtain ⟨v162, ev162⟩ : ∃ z : Int64, z = v158 * v161 := ⟨_, rfl⟩
  refine oW.lmul (pc' := 163) K at_162 ev162 rfl ?_
  have tv162 : v162.toInt = (nI * (nK + 4)) * nT := by
    have h := oLmul ev162 (by rw [tv158, tv161]; omega)
    rw [tv158, tv161] at h; exact h
  refine oW.lconst (v := (1 : Int64)) (pc' := 164) K at_163 (by decide) rfl ?_
  refine oW.iload (pc' := 166) K at_164 rfl rfl ?_
  refine oW.iconst (v := (2 : Int32)) (pc' := 167) K at_166 (by decide) rfl ?_
  obtain ⟨v167, ev167⟩ : ∃ z : Int32, z = ee + (2 : Int32) := ⟨_, rfl⟩
  refine oW.iadd (pc' := 168) K at_167 ev167 rfl ?_
  have tv167 : v167.toInt = (E : Int) + 2 := by
    have h := oIadd ev167 (by rw [f1, (by decide : ((2 : Int32)).toInt = 2)]; omega)
    rw [f1, (by decide : ((2 : Int32)).toInt = 2)] at h; exact h
  obtain ⟨v168, ev168⟩ : ∃ z : Int64, z = (1 : Int64) <<< (v167.toInt64 &&& 63) := ⟨_, rfl⟩
  refine oW.lshl (pc' := 169) K at_168 ev168 rfl ?_
  have tv168 : v168.toInt = nW * 4 := by
    have h := oShlL (E := E + 2) (tv167.trans (by omega)) (by omega) ev168
    rw [h, Nat.pow_add, Int.natCast_mul, hW]; first | rfl | omega
  obtain ⟨v169, ev169⟩ : ∃ z : Int64, z = v162 * v168 := ⟨_, rfl⟩
  refine oW.lmul (pc' := 170) K at_169 ev169 rfl ?_
  have tv169 : v169.toInt = ((nI * (nK + 4)) * nT) * (nW * 4) := by
    have h := oLmul ev169 (by rw [tv162, tv168]; omega)
    rw [tv162, tv168] at h; exact h
  refine oW.lstore (Ls' := #[.val (.int p0), .val (.int p1), .val (.int p2), .val (.int p3), .val (.int p4), .val (.int p5), .val (.int v3), .val (.int v10), .val (.int v18), .val (.int v26), .val (.int ee), .val (.int pp), .val (.int dd), .val (.double aa), .second, .val (.ref a105), .val (.double wv), .second, .val (.long v169), .second, .unset, .unset, .unset, .unset, .unset, .unset]) (pc' := 172) K at_170 rfl rfl ?_
  refine oW.iconst (v := (4 : Int32)) (pc' := 173) K at_172 (by decide) rfl ?_
  refine oW.iload (pc' := 175) K at_173 rfl rfl ?_
  obtain ⟨v175, ev175⟩ : ∃ z : Int32, z = (4 : Int32) - v18 := ⟨_, rfl⟩
  refine oW.isub (pc' := 176) K at_175 ev175 rfl ?_
  have tv175 : v175.toInt = 4 - nB := by
    have h := oIsub ev175 (by rw [(by decide : ((4 : Int32)).toInt = 4), hnB]; omega)
    rw [(by decide : ((4 : Int32)).toInt = 4), hnB] at h; exact h
  obtain ⟨v176, ev176⟩ : ∃ z : Int64, z = v175.toInt64 := ⟨_, rfl⟩
  refine oW.i2l (pc' := 177) K at_176 ev176 rfl ?_
  have tv176 : v176.toInt = 4 - nB := (oI2L ev176).trans tv175
  refine oW.lconst (v := (1 : Int64)) (pc' := 178) K at_177 (by decide) rfl ?_
  refine oW.iload (pc' := 180) K at_178 rfl rfl ?_
  obtain ⟨v180, ev180⟩ : ∃ z : Int64, z = (1 : Int64) <<< (ee.toInt64 &&& 63) := ⟨_, rfl⟩
  refine oW.lshl (pc' := 181) K at_180 ev180 rfl ?_
  have tv180 : v180.toInt = nW := by
    have h := oShlL (E := E + 0) (f1.trans (by omega)) (by omega) ev180
    rw [h, Nat.pow_add, Int.natCast_mul, hW]; first | rfl | omega
  obtain ⟨v181, ev181⟩ : ∃ z : Int64, z = v176 * v180 := ⟨_, rfl⟩
  refine oW.lmul (pc' := 182) K at_181 ev181 rfl ?_
  have tv181 : v181.toInt = (4 - nB) * nW := by
    have h := oLmul ev181 (by rw [tv176, tv180]; omega)
    rw [tv176, tv180] at h; exact h
  refine oW.iload (pc' := 184) K at_182 rfl rfl ?_
  obtain ⟨v184, ev184⟩ : ∃ z : Int64, z = v18.toInt64 := ⟨_, rfl⟩
  refine oW.i2l (pc' := 185) K at_184 ev184 rfl ?_
  have tv184 : v184.toInt = nB := (oI2L ev184).trans hnB
  refine oW.iload (pc' := 187) K at_185 rfl rfl ?_
  obtain ⟨v187, ev187⟩ : ∃ z : Int64, z = pp.toInt64 := ⟨_, rfl⟩
  refine oW.i2l (pc' := 188) K at_187 ev187 rfl ?_
  have tv187 : v187.toInt = nP := (oI2L ev187).trans f3
  obtain ⟨v188, ev188⟩ : ∃ z : Int64, z = v184 * v187 := ⟨_, rfl⟩
  refine oW.lmul (pc' := 189) K at_188 ev188 rfl ?_
  have tv188 : v188.toInt = nB * nP := by
    have h := oLmul ev188 (by rw [tv184, tv187]; omega)
    rw [tv184, tv187] at h; exact h
  obtain ⟨v189, ev189⟩ : ∃ z : Int64, z = v181 + v188 := ⟨_, rfl⟩
  refine oW.ladd (pc' := 190) K at_189 ev189 rfl ?_
  have tv189 : v189.toInt = (4 - nB) * nW + nB * nP := by
    have h := oLadd ev189 (by rw [tv181, tv188]; omega)
    rw [tv181, tv188] at h; exact h
  refine oW.lstore (Ls' := #[.val (.int p0), .val (.int p1), .val (.int p2), .val (.int p3), .val (.int p4), .val (.int p5), .val (.int v3), .val (.int v10), .val (.int v18), .val (.int v26), .val (.int ee), .val (.int pp), .val (.int dd), .val (.double aa), .second, .val (.ref a105), .val (.double wv), .second, .val (.long v169), .second, .val (.long v189), .second, .unset, .unset, .unset, .unset]) (pc' := 192) K at_190 rfl rfl ?_
  refine oW.iload (pc' := 194) K at_192 rfl rfl ?_
  obtain ⟨v194, ev194⟩ : ∃ z : Int64, z = v10.toInt64 := ⟨_, rfl⟩
  refine oW.i2l (pc' := 195) K at_194 ev194 rfl ?_
  have tv194 : v194.toInt = nK := (oI2L ev194).trans hnK
  refine oW.lload (pc' := 197) K at_195 rfl rfl ?_
  obtain ⟨v197, ev197⟩ : ∃ z : Int64, z = v194 * v189 := ⟨_, rfl⟩
  refine oW.lmul (pc' := 198) K at_197 ev197 rfl ?_
  have tv197 : v197.toInt = nK * ((4 - nB) * nW + nB * nP) := by
    have h := oLmul ev197 (by rw [tv194, tv189]; omega)
    rw [tv194, tv189] at h; exact h
  refine oW.iload (pc' := 200) K at_198 rfl rfl ?_
  obtain ⟨v200, ev200⟩ : ∃ z : Int64, z = v26.toInt64 := ⟨_, rfl⟩
  refine oW.i2l (pc' := 201) K at_200 ev200 rfl ?_
  have tv200 : v200.toInt = nT := (oI2L ev200).trans hnT
  refine oW.lconst (v := (1 : Int64)) (pc' := 202) K at_201 (by decide) rfl ?_
  refine oW.iload (pc' := 204) K at_202 rfl rfl ?_
  refine oW.iconst (v := (4 : Int32)) (pc' := 205) K at_204 (by decide) rfl ?_
  obtain ⟨v205, ev205⟩ : ∃ z : Int32, z = ee + (4 : Int32) := ⟨_, rfl⟩
  refine oW.iadd (pc' := 206) K at_205 ev205 rfl ?_
  have tv205 : v205.toInt = (E : Int) + 4 := by
    have h := oIadd ev205 (by rw [f1, (by decide : ((4 : Int32)).toInt = 4)]; omega)
    rw [f1, (by decide : ((4 : Int32)).toInt = 4)] at h; exact h
  obtain ⟨v206, ev206⟩ : ∃ z : Int64, z = (1 : Int64) <<< (v205.toInt64 &&& 63) := ⟨_, rfl⟩
  refine oW.lshl (pc' := 207) K at_206 ev206 rfl ?_
  have tv206 : v206.toInt = nW * 16 := by
    have h := oShlL (E := E + 4) (tv205.trans (by omega)) (by omega) ev206
    rw [h, Nat.pow_add, Int.natCast_mul, hW]; first | rfl | omega
  obtain ⟨v207, ev207⟩ : ∃ z : Int64, z = v200 * v206 := ⟨_, rfl⟩
  refine oW.lmul (pc' := 208) K at_207 ev207 rfl ?_
  have tv207 : v207.toInt = nT * (nW * 16) := by
    have h := oLmul ev207 (by rw [tv200, tv206]; omega)
    rw [tv200, tv206] at h; exact h
  obtain ⟨v208, ev208⟩ : ∃ z : Int64, z = v197 + v207 := ⟨_, rfl⟩
  refine oW.ladd (pc' := 209) K at_208 ev208 rfl ?_
  have tv208 : v208.toInt = nK * ((4 - nB) * nW + nB * nP) + nT * (nW * 16) := by
    have h := oLadd ev208 (by rw [tv197, tv207]; omega)
    rw [tv197, tv207] at h; exact h
  refine oW.lstore (Ls' := #[.val (.int p0), .val (.int p1), .val (.int p2), .val (.int p3), .val (.int p4), .val (.int p5), .val (.int v3), .val (.int v10), .val (.int v18), .val (.int v26), .val (.int ee), .val (.int pp), .val (.int dd), .val (.double aa), .second, .val (.ref a105), .val (.double wv), .second, .val (.long v169), .second, .val (.long v189), .second, .val (.long v208), .second, .unset, .unset]) (pc' := 211) K at_209 rfl rfl ?_
  refine oW.lload (pc' := 213) K at_211 rfl rfl ?_
  obtain ⟨v213, ev213⟩ : ∃ z : UInt64, z = FP.l2d v169 := ⟨_, rfl⟩
  have qv213 : oQ (((nI * (nK + 4)) * nT) * (nW * 4)) 0 v213 := oQ.int (tv169 ▸ oL2D ev213 (by rw [tv169]; omega))
  refine oW.l2d (pc' := 214) K at_213 ev213 rfl ?_
  refine oW.lload (pc' := 216) K at_214 rfl rfl ?_
  obtain ⟨v216, ev216⟩ : ∃ z : UInt64, z = FP.l2d v208 := ⟨_, rfl⟩
  have qv216 : oQ (nK * ((4 - nB) * nW + nB * nP) + nT * (nW * 16)) 0 v216 := oQ.int (tv208 ▸ oL2D ev216 (by rw [tv208]; omega))
  refine oW.l2d (pc' := 217) K at_216 ev216 rfl ?_
  obtain ⟨v217, ev217⟩ : ∃ z : UInt64, z = FP.ddiv v213 v216 := ⟨_, rfl⟩
  have nnv217 := qv213.divnn qv216 ev217 (by omega) (by decide) (by decide)
  refine oW.ddiv (pc' := 218) K at_217 ev217 (nnv217) rfl ?_
  refine oW.dstore (Ls' := #[.val (.int p0), .val (.int p1), .val (.int p2), .val (.int p3), .val (.int p4), .val (.int p5), .val (.int v3), .val (.int v10), .val (.int v18), .val (.int v26), .val (.int ee), .val (.int pp), .val (.int dd), .val (.double aa), .second, .val (.ref a105), .val (.double wv), .second, .val (.long v169), .second, .val (.long v189), .second, .val (.long v208), .second, .val (.double v217), .second]) (pc' := 220) K at_218 rfl rfl ?_
  refine oW.dload (pc' := 222) K at_220 rfl rfl ?_
  refine oW.dload (pc' := 224) K at_222 rfl rfl ?_
  obtain ⟨v224, ev224⟩ : ∃ z : Int32, z = cmpValue (FP.dcmp wv v217) .l := ⟨_, rfl⟩
  refine oW.dcmp (pc' := 225) K at_224 ev224 rfl ?_
  refine oW.if_ne (pc' := 232) (pc3 := 228) K at_225 (by decide) (by decide) rfl (fun q => absurd (qN.divcmp qD ew qv213 qv216 ev217 ev224 (by omega) (by omega) (by decide) (by omega) (by decide) (by decide) (oSameR hW)) q) (fun c225 => ?_)
  refine oW.iconst (v := (1 : Int32)) (pc' := 229) K at_228 (by decide) rfl ?_
  refine oW.goto (pc' := 233) K at_229 (by decide) (by decide) ?_
  exact oW.retB K rfl at_233 (by decide) (by decide) ⟨_, rfl, rfl⟩
set_option maxRecDepth 65536 in
set_option maxHeartbeats 40000000 in
theorem comes_1 {Post : Tables → Env → Array Value → State → Outcome → State → Prop} (hpost : ∀ tb e args s v u, (limb_1_1.after args s (.returned v) u = true ∧ limb_1_2.after args s (.returned v) u = true ∧ True) → ReturnedEndW s (.returned v) u (Jvm.fieldLocs frame_1_writes args s ++ Jvm.arrayLocs frame_1_arrays args s ++ Jvm.staticLocs frame_1_statics s) 16 1152 → Post tb e args s (.returned v) u) :
    ArmFor flags0 classFile x code maxLocals ret World_1 tables_1 room_1 Calls_1 rest_1 Pre_1 Post := by
  intro l hfl _ _ p e ha hc hk s m args below hf hA hF happ hP
  obtain ⟨hcalls, hrest, hpre⟩ := hP
  obtain ⟨-, -, -, hnamed, -, -, -, hat⟩ := (Spec.applies_iff hf).mp happ
  obtain ⟨hg, hn⟩ := and_e (Cond.before_iff.mp (show (Jvm.Cond.and given_1 narrow_1).before args s = true from hpre))
  obtain ⟨hcount, g0⟩ := and_e hg
  obtain ⟨k0, g1⟩ := and_e g0
  obtain ⟨k1, g2⟩ := and_e g1
  obtain ⟨k2, g3⟩ := and_e g2
  obtain ⟨k3, g4⟩ := and_e g3
  obtain ⟨k4, g5⟩ := and_e g4
  obtain ⟨w0, w1, w2, w3, w4, w5, rfl⟩ : ∃ w0 w1 w2 w3 w4 w5 : Value, args = #[w0, w1, w2, w3, w4, w5] := by
    have hs : args.size = 6 := by simpa [Cond.value, given_1] using hcount
    obtain ⟨L⟩ := args
    match L, hs with
    | [w0, w1, w2, w3, w4, w5], _ => exact ⟨w0, w1, w2, w3, w4, w5, rfl⟩
  have hw := fun d (hd : d ∈ tables_1) => atoms_spec (ws := Jvm.Cond.code x code maxLocals ret :: tables_1) hat d (List.mem_cons_of_mem _ hd)
  obtain ⟨i0, ei0⟩ := is_v k0
  obtain rfl : w0 = (.int i0) := Option.some.inj ei0
  obtain ⟨i1, ei1⟩ := is_v k1
  obtain rfl : w1 = (.int i1) := Option.some.inj ei1
  obtain ⟨i2, ei2⟩ := is_v k2
  obtain rfl : w2 = (.int i2) := Option.some.inj ei2
  obtain ⟨i3, ei3⟩ := is_v k3
  obtain rfl : w3 = (.int i3) := Option.some.inj ei3
  obtain ⟨i4, ei4⟩ := is_v k4
  obtain rfl : w4 = (.int i4) := Option.some.inj ei4
  obtain ⟨i5, ei5⟩ := is_v g5
  obtain rfl : w5 = (.int i5) := Option.some.inj ei5
  obtain ⟨ia, _, _, _, evs, _⟩ := Cond.exactly_spec (Cond.before_iff.mpr hn)
  have hSt := Sta.start evs (Or.inr ⟨(hw _ (List.mem_of_getElem? (i := 7) rfl)), (hw _ (List.mem_of_getElem? (i := 8) rfl))⟩)
  have hEx := Exa.start evs hn
  obtain ⟨n, o, h1, h2, h3, _, L, rfl, ⟨N, _, ⟨_, rfl, rfl⟩, _⟩, hq⟩ := (own_law (l := l) (h0 := s.heap) hw hSt hEx i0 i1 i2 i3 i4 i5) s.heap (oMem.start s s.heap) p e ha hc hk s m _ below hf ((Spec.applies_iff_loose hf).mp happ).1 ⟨rfl, State.Warmed39.refl s, rfl⟩ trivial
  refine ⟨n, _, h1, h2, h3, hpost _ _ _ _ _ _ ⟨Cond.after_iff.mpr rfl, Cond.after_iff.mpr (eq_i res_at (Term.int_eval (1)) rfl), trivial⟩ ⟨hq.1, hq.2.1, hq.2.2.1, (hq.2.2.2.sift fun y hy => Or.inr (N y hy)).mono (by decide) (by decide)⟩⟩
theorem main_1_1 : Claimed_1_1 := comes_1 fun _ _ _ _ _ _ h hF => ⟨h.1, hF⟩
theorem main_1_2 : Claimed_1_2 := comes_1 fun _ _ _ _ _ _ h hF => ⟨h.2.1, hF⟩
end Jvm.Pilot.@@N@@
namespace Jvm.Pilot.@@N@@
open Jvm Jvm.ClassFile Sem Op Lib Jvm.Free Jvm.Stand Jvm.Pilot.@@N@@.Jvm.D
/-! MADE BY PROGRAM (witnessworld.py) out of the Statement's table words and the real class files: 21 classes; the members and pool entries that the words name. The judged class is class 1, her method 1. -/
namespace start1
open Jvm.ClassFile
def u (s : String) : CpInfo := .utf8 (stringToUtf16 s)
/-- a pool by its gaps: so many unusable entries, then the entry; so many at the end -/
def gap : Nat → List CpInfo → List CpInfo
  | 0, r => r
  | n + 1, r => .unusable :: gap n r
def poolList (es : List (Nat × CpInfo)) (last : Nat) : List CpInfo := es.foldr (fun e r => gap e.1 (e.2 :: r)) (gap last [])
def pool (es : List (Nat × CpInfo)) (last : Nat) : Array CpInfo := ⟨poolList es last⟩
def fileOf (pool : Array CpInfo) (this : Nat) (attrs : Array Attribute := #[]) (ms : Array MethodInfo := #[]) (fl : Nat := 33) (sup : Nat := 0) (ifs : Array Nat := #[]) (fds : Array FieldInfo := #[]) : ClassFile where
  minorVersion := 0
  majorVersion := 65
  constantPool := pool
  accessFlags := fl
  thisClass := this
  superClass := sup
  interfaces := ifs
  fields := fds
  methods := ms
  attributes := attrs
def plain (name : String) (sup : Option ClassId) : Class where
  name := name
  kind := .ordinary
  loader := none
  accessFlags := 33
  super := sup
  interfaces := #[]
  cf := none
  fields := #[]
  methods := #[]
  instanceTypes := #[]
  staticTypes := #[]
  resolved := #[]
  callSites := []
  init := .initialized
  statics := none
  mirror := none

def pool0 : Array CpInfo := pool [(5, u "<init>"), (0, u "()V"), (1, .class_ 10), (1, u "java/lang/Object")] 113

def k0c0 : Code := { maxStack := 0, maxLocals := 1, code := object_method_1_code, exceptionTable := #[], attributes := #[] }
def k0m0 : Method := { name := "<init>", desc := "()V", sig := { parameters := [], returnType := none }, accessFlags := 1, code := some k0c0 }
/-- java/lang/Object -/
def k0 : Class := { plain "java/lang/Object" none with
  accessFlags := 33
  interfaces := #[]
  cf := some (fileOf pool0 8 #[] #[{ accessFlags := 1, nameIndex := 5, descriptorIndex := 6, attributes := #[] }] 33 0 #[] #[])
  fields := #[]
  methods := #[k0m0]
  instanceTypes := #[]
  staticTypes := #[]
  resolved := Array.replicate 124 none
  statics := none }

def pool1 : Array CpInfo := pool [(2, .class_ 4), (1, u "java/lang/Object"), (0, u "<init>"), (0, u "()V"), (0, .integer 2147483647), (0, .integer 65535), (0, .integer 1048575), (0, .class_ 11), (0, u "com/example/likely_match/likelymatch/ranking/Bm25"), (0, .double 4616189618054758400), (1, .fieldref 15 16), (0, .class_ 17), (0, .nameAndType 18 19), (0, u "com/example/likely_match/likelymatch/ranking/Idf"), (0, u "PLAIN"), (0, u "Lcom/example/likely_match/likelymatch/ranking/Idf;"), (0, .double 9218868437227405312), (1, .methodref 10 23), (0, .nameAndType 5 24), (0, u "(DDLcom/example/likely_match/likelymatch/ranking/Idf;D)V"), (0, .methodref 10 26), (0, .nameAndType 27 28), (0, u "weight"), (0, u "(DIID)D"), (0, .class_ 30), (0, u "com/example/likely_match/likelymatch/ranking/Bm25WeightPinLaw"), (2, u "law"), (0, u "(IIIIII)Z")] 3

def k1m0 : Method := { name := "<init>", desc := "()V", sig := { parameters := [], returnType := none }, accessFlags := 1, code := none }
def k1c1 : Code := { maxStack := 9, maxLocals := 26, code := code, exceptionTable := #[], attributes := #[] }
def k1m1 : Method := { name := "law", desc := "(IIIIII)Z", sig := { parameters := [.int, .int, .int, .int, .int, .int], returnType := some .boolean }, accessFlags := 9, code := some k1c1 }
/-- com/example/likely_match/likelymatch/ranking/Bm25WeightPinLaw -/
def k1 : Class := { plain "com/example/likely_match/likelymatch/ranking/Bm25WeightPinLaw" (some 0) with
  accessFlags := 49
  interfaces := #[]
  cf := some (fileOf pool1 29 #[] #[{ accessFlags := 1, nameIndex := 5, descriptorIndex := 6, attributes := #[] }, { accessFlags := 9, nameIndex := 33, descriptorIndex := 34, attributes := #[] }] 49 2 #[] #[])
  fields := #[]
  methods := #[k1m0, k1m1]
  instanceTypes := #[]
  staticTypes := #[]
  resolved := Array.replicate 38 none
  statics := none }

def pool2 : Array CpInfo := pool [(1, .class_ 2), (0, u "com/example/likely_match/likelymatch/ranking/Model"), (0, .class_ 4), (0, u "java/lang/Object")] 6

/-- com/example/likely_match/likelymatch/ranking/Model -/
def k2 : Class := { plain "com/example/likely_match/likelymatch/ranking/Model" (some 0) with
  accessFlags := 1537
  interfaces := #[]
  cf := some (fileOf pool2 1 #[] #[] 1537 3 #[] #[])
  fields := #[]
  methods := #[]
  instanceTypes := #[]
  staticTypes := #[]
  resolved := Array.replicate 11 none
  statics := none }

def pool3 : Array CpInfo := pool [(1, .class_ 2), (0, u "java/lang/Double"), (1, .class_ 6), (1, u "com/example/likely_match/likelymatch/ranking/Bm25"), (0, u "DEFAULT_IDF"), (0, u "Lcom/example/likely_match/likelymatch/ranking/Idf;"), (4, u "<init>"), (0, u "(DDLcom/example/likely_match/likelymatch/ranking/Idf;D)V"), (0, .methodref 16 17), (0, .class_ 18), (0, .nameAndType 13 19), (0, u "java/lang/Object"), (0, u "()V"), (0, .methodref 1 21), (0, .nameAndType 22 23), (0, u "isInfinite"), (0, u "(D)Z"), (11, .fieldref 4 36), (0, .nameAndType 37 38), (0, u "k1"), (0, u "D"), (0, .fieldref 4 40), (0, .nameAndType 41 38), (0, u "b"), (0, .string 43), (0, u "idf"), (0, .methodref 45 46), (0, .class_ 47), (0, .nameAndType 48 49), (0, u "java/util/Objects"), (0, u "requireNonNull"), (0, u "(Ljava/lang/Object;Ljava/lang/String;)Ljava/lang/Object;"), (0, .class_ 51), (0, u "com/example/likely_match/likelymatch/ranking/Idf"), (0, .fieldref 4 53), (0, .nameAndType 43 8), (0, .fieldref 4 55), (0, .nameAndType 56 38), (0, u "k3"), (132, u "weight"), (0, u "(DIID)D"), (11, .class_ 203), (0, u "com/example/likely_match/likelymatch/ranking/Model"), (0, u "DEFAULT_K1"), (3, u "DEFAULT_B"), (2, u "DEFAULT_K3")] 47

def k3c0 : Code := { maxStack := 4, maxLocals := 8, code := prog_43_method_2_code, exceptionTable := #[], attributes := #[] }
def k3m0 : Method := { name := "<init>", desc := "(DDLcom/example/likely_match/likelymatch/ranking/Idf;D)V", sig := { parameters := [.double, .double, (.object "com/example/likely_match/likelymatch/ranking/Idf"), .double], returnType := none }, accessFlags := 1, code := some k3c0 }
def k3c1 : Code := { maxStack := 6, maxLocals := 9, code := prog_43_method_4_code, exceptionTable := #[], attributes := #[] }
def k3m1 : Method := { name := "weight", desc := "(DIID)D", sig := { parameters := [.double, .int, .int, .double], returnType := some .double }, accessFlags := 1, code := some k3c1 }
/-- com/example/likely_match/likelymatch/ranking/Bm25 -/
def k3 : Class := { plain "com/example/likely_match/likelymatch/ranking/Bm25" (some 0) with
  accessFlags := 49
  interfaces := #[2]
  cf := some (fileOf pool3 4 #[] #[{ accessFlags := 1, nameIndex := 13, descriptorIndex := 14, attributes := #[] }, { accessFlags := 1, nameIndex := 189, descriptorIndex := 190, attributes := #[] }] 49 16 #[202] #[{ accessFlags := 25, nameIndex := 204, descriptorIndex := 38, attributes := #[] }, { accessFlags := 25, nameIndex := 208, descriptorIndex := 38, attributes := #[] }, { accessFlags := 25, nameIndex := 7, descriptorIndex := 8, attributes := #[] }, { accessFlags := 25, nameIndex := 211, descriptorIndex := 38, attributes := #[] }, { accessFlags := 18, nameIndex := 37, descriptorIndex := 38, attributes := #[] }, { accessFlags := 18, nameIndex := 41, descriptorIndex := 38, attributes := #[] }, { accessFlags := 18, nameIndex := 43, descriptorIndex := 8, attributes := #[] }, { accessFlags := 18, nameIndex := 56, descriptorIndex := 38, attributes := #[] }])
  fields := #[{ name := "DEFAULT_K1", type := .double, accessFlags := 25, slot := 0, constantValue := 0 }, { name := "DEFAULT_B", type := .double, accessFlags := 25, slot := 1, constantValue := 0 }, { name := "DEFAULT_IDF", type := (.object "com/example/likely_match/likelymatch/ranking/Idf"), accessFlags := 25, slot := 2, constantValue := 0 }, { name := "DEFAULT_K3", type := .double, accessFlags := 25, slot := 3, constantValue := 0 }, { name := "k1", type := .double, accessFlags := 18, slot := 0, constantValue := 0 }, { name := "b", type := .double, accessFlags := 18, slot := 1, constantValue := 0 }, { name := "idf", type := (.object "com/example/likely_match/likelymatch/ranking/Idf"), accessFlags := 18, slot := 2, constantValue := 0 }, { name := "k3", type := .double, accessFlags := 18, slot := 3, constantValue := 0 }]
  methods := #[k3m0, k3m1]
  instanceTypes := #[.double, .double, (.object "com/example/likely_match/likelymatch/ranking/Idf"), .double]
  staticTypes := #[.double, .double, (.object "com/example/likely_match/likelymatch/ranking/Idf"), .double]
  resolved := Array.replicate 259 none
  statics := none }

def pool4 : Array CpInfo := pool [(1, .class_ 2), (0, u "java/lang/constant/Constable"), (0, .class_ 4), (0, u "java/lang/Object")] 6

/-- java/lang/constant/Constable -/
def k4 : Class := { plain "java/lang/constant/Constable" (some 0) with
  accessFlags := 1537
  interfaces := #[]
  cf := some (fileOf pool4 1 #[] #[] 1537 3 #[] #[])
  fields := #[]
  methods := #[]
  instanceTypes := #[]
  staticTypes := #[]
  resolved := Array.replicate 11 none
  statics := none }

def pool5 : Array CpInfo := pool [(1, .class_ 2), (0, u "java/lang/Comparable"), (0, .class_ 4), (0, u "java/lang/Object")] 7

/-- java/lang/Comparable -/
def k5 : Class := { plain "java/lang/Comparable" (some 0) with
  accessFlags := 1537
  interfaces := #[]
  cf := some (fileOf pool5 1 #[] #[] 1537 3 #[] #[])
  fields := #[]
  methods := #[]
  instanceTypes := #[]
  staticTypes := #[]
  resolved := Array.replicate 12 none
  statics := none }

def pool6 : Array CpInfo := pool [(1, .class_ 2), (0, u "java/io/Serializable"), (0, .class_ 4), (0, u "java/lang/Object")] 2

/-- java/io/Serializable -/
def k6 : Class := { plain "java/io/Serializable" (some 0) with
  accessFlags := 1537
  interfaces := #[]
  cf := some (fileOf pool6 1 #[] #[] 1537 3 #[] #[])
  fields := #[]
  methods := #[]
  instanceTypes := #[]
  staticTypes := #[]
  resolved := Array.replicate 7 none
  statics := none }

def pool7 : Array CpInfo := pool [(2, .class_ 4), (1, u "java/lang/Enum"), (0, u "name"), (0, u "Ljava/lang/String;"), (2, u "ordinal"), (0, u "I"), (1, .class_ 14), (1, u "java/lang/Object"), (4, u "hash"), (86, .class_ 108), (1, u "java/lang/Enum$EnumDesc"), (2, .class_ 112), (0, u "java/lang/constant/Constable"), (0, .class_ 114), (0, u "java/lang/Comparable"), (0, .class_ 116), (0, u "java/io/Serializable")] 87

/-- java/lang/Enum -/
def k7 : Class := { plain "java/lang/Enum" (some 0) with
  accessFlags := 1057
  interfaces := #[4, 5, 6]
  cf := some (fileOf pool7 2 #[.nestMembers #[106]] #[] 1057 12 #[111, 113, 115] #[{ accessFlags := 18, nameIndex := 5, descriptorIndex := 6, attributes := #[] }, { accessFlags := 18, nameIndex := 9, descriptorIndex := 10, attributes := #[] }, { accessFlags := 2, nameIndex := 19, descriptorIndex := 10, attributes := #[] }])
  fields := #[{ name := "name", type := (.object "java/lang/String"), accessFlags := 18, slot := 0, constantValue := 0 }, { name := "ordinal", type := .int, accessFlags := 18, slot := 1, constantValue := 0 }, { name := "hash", type := .int, accessFlags := 2, slot := 2, constantValue := 0 }]
  methods := #[]
  instanceTypes := #[(.object "java/lang/String"), .int, .int]
  staticTypes := #[]
  resolved := Array.replicate 204 none
  statics := none }

def pool8 : Array CpInfo := pool [(1, .class_ 2), (0, u "com/example/likely_match/likelymatch/ranking/Idf"), (2, u "PLAIN"), (0, u "Lcom/example/likely_match/likelymatch/ranking/Idf;"), (2, u "RSJ"), (2, u "RSJ_FLOOR"), (2, u "RSJ_PLUS1"), (2, u "$VALUES"), (0, u "[Lcom/example/likely_match/likelymatch/ranking/Idf;"), (6, .class_ 28), (1, u "java/lang/Enum")] 101

/-- com/example/likely_match/likelymatch/ranking/Idf -/
def k8 : Class := { plain "com/example/likely_match/likelymatch/ranking/Idf" (some 7) with
  accessFlags := 16433
  interfaces := #[]
  cf := some (fileOf pool8 1 #[] #[] 16433 26 #[] #[{ accessFlags := 16409, nameIndex := 5, descriptorIndex := 6, attributes := #[] }, { accessFlags := 16409, nameIndex := 9, descriptorIndex := 6, attributes := #[] }, { accessFlags := 16409, nameIndex := 12, descriptorIndex := 6, attributes := #[] }, { accessFlags := 16409, nameIndex := 15, descriptorIndex := 6, attributes := #[] }, { accessFlags := 4122, nameIndex := 18, descriptorIndex := 19, attributes := #[] }])
  fields := #[{ name := "PLAIN", type := (.object "com/example/likely_match/likelymatch/ranking/Idf"), accessFlags := 16409, slot := 0, constantValue := 0 }, { name := "RSJ", type := (.object "com/example/likely_match/likelymatch/ranking/Idf"), accessFlags := 16409, slot := 1, constantValue := 0 }, { name := "RSJ_FLOOR", type := (.object "com/example/likely_match/likelymatch/ranking/Idf"), accessFlags := 16409, slot := 2, constantValue := 0 }, { name := "RSJ_PLUS1", type := (.object "com/example/likely_match/likelymatch/ranking/Idf"), accessFlags := 16409, slot := 3, constantValue := 0 }, { name := "$VALUES", type := (.array (.object "com/example/likely_match/likelymatch/ranking/Idf")), accessFlags := 4122, slot := 4, constantValue := 0 }]
  methods := #[]
  instanceTypes := #[(.object "java/lang/String"), .int, .int]
  staticTypes := #[(.object "com/example/likely_match/likelymatch/ranking/Idf"), (.object "com/example/likely_match/likelymatch/ranking/Idf"), (.object "com/example/likely_match/likelymatch/ranking/Idf"), (.object "com/example/likely_match/likelymatch/ranking/Idf"), (.array (.object "com/example/likely_match/likelymatch/ranking/Idf"))]
  resolved := Array.replicate 130 none
  statics := some 0 }

def pool9 : Array CpInfo := pool [(2, .class_ 4), (1, u "java/lang/Object"), (0, u "<init>"), (0, u "()V"), (1, .class_ 10), (1, u "java/lang/Number"), (2, .class_ 14), (0, u "java/io/Serializable"), (0, u "serialVersionUID"), (0, u "J")] 20

def k9m0 : Method := { name := "<init>", desc := "()V", sig := { parameters := [], returnType := none }, accessFlags := 1, code := none }
/-- java/lang/Number -/
def k9 : Class := { plain "java/lang/Number" (some 0) with
  accessFlags := 1057
  interfaces := #[6]
  cf := some (fileOf pool9 8 #[] #[{ accessFlags := 1, nameIndex := 5, descriptorIndex := 6, attributes := #[] }] 1057 2 #[13] #[{ accessFlags := 26, nameIndex := 15, descriptorIndex := 16, attributes := #[] }])
  fields := #[{ name := "serialVersionUID", type := .long, accessFlags := 26, slot := 0, constantValue := 0 }]
  methods := #[k9m0]
  instanceTypes := #[]
  staticTypes := #[.long]
  resolved := Array.replicate 37 none
  statics := none }

def pool10 : Array CpInfo := pool [(1, .class_ 2), (0, u "java/lang/constant/ConstantDesc"), (0, .class_ 4), (0, u "java/lang/Object")] 32

/-- java/lang/constant/ConstantDesc -/
def k10 : Class := { plain "java/lang/constant/ConstantDesc" (some 0) with
  accessFlags := 1537
  interfaces := #[]
  cf := some (fileOf pool10 1 #[] #[] 1537 3 #[] #[])
  fields := #[]
  methods := #[]
  instanceTypes := #[]
  staticTypes := #[]
  resolved := Array.replicate 37 none
  statics := none }

def pool11 : Array CpInfo := pool [(1, .class_ 2), (0, u "java/lang/Double"), (11, u "(D)Z"), (8, .class_ 25), (1, u "java/lang/Math"), (12, .methodref 23 39), (0, .nameAndType 40 41), (0, u "abs"), (0, u "(D)D"), (69, .double 9218868437227405311), (2, .class_ 116), (1, u "java/lang/Number"), (3, u "value"), (0, u "D"), (5, u "isInfinite"), (45, u "TYPE"), (0, u "Ljava/lang/Class;"), (0, .class_ 176), (0, u "java/lang/Comparable"), (0, .class_ 178), (0, u "java/lang/constant/Constable"), (0, .class_ 180), (0, u "java/lang/constant/ConstantDesc"), (0, u "POSITIVE_INFINITY"), (3, u "NEGATIVE_INFINITY"), (2, u "NaN"), (2, u "MAX_VALUE"), (0, u "MIN_NORMAL"), (0, u "MIN_VALUE"), (2, u "SIZE"), (0, u "I"), (1, u "PRECISION"), (1, u "MAX_EXPONENT"), (1, u "MIN_EXPONENT"), (1, u "BYTES"), (3, u "serialVersionUID"), (0, u "J")] 79

def k11c0 : Code := { maxStack := 4, maxLocals := 2, code := jdk_117_method_7_code, exceptionTable := #[], attributes := #[] }
def k11m0 : Method := { name := "isInfinite", desc := "(D)Z", sig := { parameters := [.double], returnType := some .boolean }, accessFlags := 9, code := some k11c0 }
/-- java/lang/Double -/
def k11 : Class := { plain "java/lang/Double" (some 9) with
  accessFlags := 49
  interfaces := #[5, 4, 10]
  cf := some (fileOf pool11 1 #[] #[{ accessFlags := 9, nameIndex := 127, descriptorIndex := 14, attributes := #[] }] 49 114 #[175, 177, 179] #[{ accessFlags := 25, nameIndex := 181, descriptorIndex := 121, attributes := #[] }, { accessFlags := 25, nameIndex := 185, descriptorIndex := 121, attributes := #[] }, { accessFlags := 25, nameIndex := 188, descriptorIndex := 121, attributes := #[] }, { accessFlags := 25, nameIndex := 191, descriptorIndex := 121, attributes := #[] }, { accessFlags := 25, nameIndex := 192, descriptorIndex := 121, attributes := #[] }, { accessFlags := 25, nameIndex := 193, descriptorIndex := 121, attributes := #[] }, { accessFlags := 25, nameIndex := 196, descriptorIndex := 197, attributes := #[] }, { accessFlags := 25, nameIndex := 199, descriptorIndex := 197, attributes := #[] }, { accessFlags := 25, nameIndex := 201, descriptorIndex := 197, attributes := #[] }, { accessFlags := 25, nameIndex := 203, descriptorIndex := 197, attributes := #[] }, { accessFlags := 25, nameIndex := 205, descriptorIndex := 197, attributes := #[] }, { accessFlags := 25, nameIndex := 173, descriptorIndex := 174, attributes := #[] }, { accessFlags := 18, nameIndex := 120, descriptorIndex := 121, attributes := #[] }, { accessFlags := 26, nameIndex := 209, descriptorIndex := 210, attributes := #[] }])
  fields := #[{ name := "POSITIVE_INFINITY", type := .double, accessFlags := 25, slot := 0, constantValue := 0 }, { name := "NEGATIVE_INFINITY", type := .double, accessFlags := 25, slot := 1, constantValue := 0 }, { name := "NaN", type := .double, accessFlags := 25, slot := 2, constantValue := 0 }, { name := "MAX_VALUE", type := .double, accessFlags := 25, slot := 3, constantValue := 0 }, { name := "MIN_NORMAL", type := .double, accessFlags := 25, slot := 4, constantValue := 0 }, { name := "MIN_VALUE", type := .double, accessFlags := 25, slot := 5, constantValue := 0 }, { name := "SIZE", type := .int, accessFlags := 25, slot := 6, constantValue := 0 }, { name := "PRECISION", type := .int, accessFlags := 25, slot := 7, constantValue := 0 }, { name := "MAX_EXPONENT", type := .int, accessFlags := 25, slot := 8, constantValue := 0 }, { name := "MIN_EXPONENT", type := .int, accessFlags := 25, slot := 9, constantValue := 0 }, { name := "BYTES", type := .int, accessFlags := 25, slot := 10, constantValue := 0 }, { name := "TYPE", type := (.object "java/lang/Class"), accessFlags := 25, slot := 11, constantValue := 0 }, { name := "value", type := .double, accessFlags := 18, slot := 0, constantValue := 0 }, { name := "serialVersionUID", type := .long, accessFlags := 26, slot := 12, constantValue := 0 }]
  methods := #[k11m0]
  instanceTypes := #[.double]
  staticTypes := #[.double, .double, .double, .double, .double, .double, .int, .int, .int, .int, .int, (.object "java/lang/Class"), .long]
  resolved := Array.replicate 290 none
  statics := none }

def pool12 : Array CpInfo := pool [(1, .class_ 2), (0, u "java/lang/Math"), (1, .class_ 6), (1, u "java/lang/Object"), (0, u "<init>"), (0, u "()V"), (5, u "(D)D"), (83, .class_ 100), (1, u "java/lang/Math$RandomNumberGeneratorHolder"), (23, u "abs"), (47, u "negativeZeroFloatBits"), (0, u "J"), (2, u "negativeZeroDoubleBits"), (68, u "$assertionsDisabled"), (0, u "Z"), (91, u "twoToTheDoubleScaleDown"), (0, u "D"), (4, u "twoToTheDoubleScaleUp"), (9, u "E"), (3, u "PI"), (2, u "TAU"), (2, u "DEGREES_TO_RADIANS"), (0, u "RADIANS_TO_DEGREES")] 94

def k12m0 : Method := { name := "<init>", desc := "()V", sig := { parameters := [], returnType := none }, accessFlags := 2, code := none }
def k12c1 : Code := { maxStack := 4, maxLocals := 2, code := jdk_29_method_64_code, exceptionTable := #[], attributes := #[] }
def k12m1 : Method := { name := "abs", desc := "(D)D", sig := { parameters := [.double], returnType := some .double }, accessFlags := 9, code := some k12c1 }
/-- java/lang/Math -/
def k12 : Class := { plain "java/lang/Math" (some 0) with
  accessFlags := 49
  interfaces := #[]
  cf := some (fileOf pool12 1 #[.nestMembers #[98]] #[{ accessFlags := 2, nameIndex := 7, descriptorIndex := 8, attributes := #[] }, { accessFlags := 9, nameIndex := 124, descriptorIndex := 14, attributes := #[] }] 49 4 #[] #[{ accessFlags := 25, nameIndex := 354, descriptorIndex := 339, attributes := #[] }, { accessFlags := 25, nameIndex := 358, descriptorIndex := 339, attributes := #[] }, { accessFlags := 25, nameIndex := 361, descriptorIndex := 339, attributes := #[] }, { accessFlags := 26, nameIndex := 364, descriptorIndex := 339, attributes := #[] }, { accessFlags := 26, nameIndex := 365, descriptorIndex := 339, attributes := #[] }, { accessFlags := 26, nameIndex := 172, descriptorIndex := 173, attributes := #[] }, { accessFlags := 26, nameIndex := 176, descriptorIndex := 173, attributes := #[] }, { accessFlags := 8, nameIndex := 344, descriptorIndex := 339, attributes := #[] }, { accessFlags := 8, nameIndex := 338, descriptorIndex := 339, attributes := #[] }, { accessFlags := 4120, nameIndex := 245, descriptorIndex := 246, attributes := #[] }])
  fields := #[{ name := "E", type := .double, accessFlags := 25, slot := 0, constantValue := 0 }, { name := "PI", type := .double, accessFlags := 25, slot := 1, constantValue := 0 }, { name := "TAU", type := .double, accessFlags := 25, slot := 2, constantValue := 0 }, { name := "DEGREES_TO_RADIANS", type := .double, accessFlags := 26, slot := 3, constantValue := 0 }, { name := "RADIANS_TO_DEGREES", type := .double, accessFlags := 26, slot := 4, constantValue := 0 }, { name := "negativeZeroFloatBits", type := .long, accessFlags := 26, slot := 5, constantValue := 0 }, { name := "negativeZeroDoubleBits", type := .long, accessFlags := 26, slot := 6, constantValue := 0 }, { name := "twoToTheDoubleScaleUp", type := .double, accessFlags := 8, slot := 7, constantValue := 0 }, { name := "twoToTheDoubleScaleDown", type := .double, accessFlags := 8, slot := 8, constantValue := 0 }, { name := "$assertionsDisabled", type := .boolean, accessFlags := 4120, slot := 9, constantValue := 0 }]
  methods := #[k12m0, k12m1]
  instanceTypes := #[]
  staticTypes := #[.double, .double, .double, .double, .double, .long, .long, .double, .double, .boolean]
  resolved := Array.replicate 460 none
  statics := none }

def pool13 : Array CpInfo := pool [(2, .class_ 4), (1, u "java/lang/CharSequence"), (42, .class_ 48), (0, u "java/lang/CharSequence$1CodePointIterator"), (10, .class_ 60), (0, u "java/lang/CharSequence$1CharIterator"), (5, .class_ 67), (0, u "java/lang/Object")] 63

/-- java/lang/CharSequence -/
def k13 : Class := { plain "java/lang/CharSequence" (some 0) with
  accessFlags := 1537
  interfaces := #[]
  cf := some (fileOf pool13 2 #[.nestMembers #[47, 59]] #[] 1537 66 #[] #[])
  fields := #[]
  methods := #[]
  instanceTypes := #[]
  staticTypes := #[]
  resolved := Array.replicate 131 none
  statics := none }

def pool14 : Array CpInfo := pool [(2, .class_ 4), (1, u "java/lang/Object"), (0, u "<init>"), (0, u "()V"), (3, .class_ 12), (1, u "java/lang/String"), (0, u "value"), (0, u "[B"), (2, u "coder"), (0, u "B"), (2, u "hash"), (0, u "I"), (2, u "hashIsZero"), (0, u "Z"), (13, u "COMPACT_STRINGS"), (534, .class_ 576), (0, u "java/lang/CharSequence"), (22, u "CASE_INSENSITIVE_ORDER"), (0, u "Ljava/util/Comparator;"), (500, u "serialPersistentFields"), (0, u "[Ljava/io/ObjectStreamField;"), (0, .class_ 1104), (0, u "java/lang/String$CaseInsensitiveComparator"), (1, .class_ 1107), (0, u "java/io/Serializable"), (0, .class_ 1109), (0, u "java/lang/Comparable"), (0, .class_ 1111), (0, u "java/lang/constant/Constable"), (0, .class_ 1113), (0, u "java/lang/constant/ConstantDesc"), (2, u "serialVersionUID"), (0, u "J"), (3, u "REPL"), (0, u "C"), (2, u "LATIN1"), (1, u "UTF16")] 323

def k14m0 : Method := { name := "<init>", desc := "()V", sig := { parameters := [], returnType := none }, accessFlags := 1, code := none }
/-- java/lang/String -/
def k14 : Class := { plain "java/lang/String" (some 0) with
  accessFlags := 49
  interfaces := #[6, 5, 13, 4, 10]
  cf := some (fileOf pool14 10 #[.nestMembers #[1103]] #[{ accessFlags := 1, nameIndex := 5, descriptorIndex := 6, attributes := #[] }] 49 2 #[1106, 1108, 575, 1110, 1112] #[{ accessFlags := 18, nameIndex := 13, descriptorIndex := 14, attributes := #[] }, { accessFlags := 18, nameIndex := 17, descriptorIndex := 18, attributes := #[] }, { accessFlags := 2, nameIndex := 21, descriptorIndex := 22, attributes := #[] }, { accessFlags := 2, nameIndex := 25, descriptorIndex := 26, attributes := #[] }, { accessFlags := 26, nameIndex := 1116, descriptorIndex := 1117, attributes := #[] }, { accessFlags := 24, nameIndex := 40, descriptorIndex := 26, attributes := #[] }, { accessFlags := 26, nameIndex := 1101, descriptorIndex := 1102, attributes := #[] }, { accessFlags := 26, nameIndex := 1121, descriptorIndex := 1122, attributes := #[] }, { accessFlags := 25, nameIndex := 599, descriptorIndex := 600, attributes := #[] }, { accessFlags := 24, nameIndex := 1125, descriptorIndex := 18, attributes := #[] }, { accessFlags := 24, nameIndex := 1127, descriptorIndex := 18, attributes := #[] }])
  fields := #[{ name := "value", type := (.array .byte), accessFlags := 18, slot := 0, constantValue := 0 }, { name := "coder", type := .byte, accessFlags := 18, slot := 1, constantValue := 0 }, { name := "hash", type := .int, accessFlags := 2, slot := 2, constantValue := 0 }, { name := "hashIsZero", type := .boolean, accessFlags := 2, slot := 3, constantValue := 0 }, { name := "serialVersionUID", type := .long, accessFlags := 26, slot := 0, constantValue := 0 }, { name := "COMPACT_STRINGS", type := .boolean, accessFlags := 24, slot := 1, constantValue := 0 }, { name := "serialPersistentFields", type := (.array (.object "java/io/ObjectStreamField")), accessFlags := 26, slot := 2, constantValue := 0 }, { name := "REPL", type := .char, accessFlags := 26, slot := 3, constantValue := 0 }, { name := "CASE_INSENSITIVE_ORDER", type := (.object "java/util/Comparator"), accessFlags := 25, slot := 4, constantValue := 0 }, { name := "LATIN1", type := .byte, accessFlags := 24, slot := 5, constantValue := 0 }, { name := "UTF16", type := .byte, accessFlags := 24, slot := 6, constantValue := 0 }]
  methods := #[k14m0]
  instanceTypes := #[(.array .byte), .byte, .int, .boolean]
  staticTypes := #[.long, .boolean, (.array (.object "java/io/ObjectStreamField")), .char, (.object "java/util/Comparator"), .byte, .byte]
  resolved := Array.replicate 1451 none
  statics := none }

def pool15 : Array CpInfo := pool [(2, .class_ 4), (1, u "java/lang/Object"), (0, u "<init>"), (0, u "()V"), (35, .class_ 44), (1, u "java/util/Objects"), (0, u "requireNonNull"), (48, u "(Ljava/lang/Object;Ljava/lang/String;)Ljava/lang/Object;")] 89

def k15m0 : Method := { name := "<init>", desc := "()V", sig := { parameters := [], returnType := none }, accessFlags := 2, code := none }
def k15c1 : Code := { maxStack := 3, maxLocals := 2, code := jdk_31_method_11_code, exceptionTable := #[], attributes := #[] }
def k15m1 : Method := { name := "requireNonNull", desc := "(Ljava/lang/Object;Ljava/lang/String;)Ljava/lang/Object;", sig := { parameters := [(.object "java/lang/Object"), (.object "java/lang/String")], returnType := some (.object "java/lang/Object") }, accessFlags := 9, code := some k15c1 }
/-- java/util/Objects -/
def k15 : Class := { plain "java/util/Objects" (some 0) with
  accessFlags := 49
  interfaces := #[]
  cf := some (fileOf pool15 42 #[] #[{ accessFlags := 2, nameIndex := 5, descriptorIndex := 6, attributes := #[] }, { accessFlags := 9, nameIndex := 45, descriptorIndex := 94, attributes := #[] }] 49 2 #[] #[])
  fields := #[]
  methods := #[k15m0, k15m1]
  instanceTypes := #[]
  staticTypes := #[]
  resolved := Array.replicate 184 none
  statics := none }

def pool16 : Array CpInfo := pool [(1, u "java/lang/Cloneable"), (0, .class_ 1), (0, u "java/lang/Object"), (0, .class_ 3)] 3

/-- java/lang/Cloneable -/
def k16 : Class := { plain "java/lang/Cloneable" (some 0) with
  accessFlags := 1537
  interfaces := #[]
  cf := some (fileOf pool16 2 #[] #[] 1537 4 #[] #[])
  fields := #[]
  methods := #[]
  instanceTypes := #[]
  staticTypes := #[]
  resolved := Array.replicate 8 none
  statics := none }

/-- the primitive byte -/
def k17 : Class := { plain "byte" none with kind := .primitive 'B', accessFlags := 0x411 }
/-- [B -/
def k18 : Class := { plain "[B" (some 0) with kind := .array 17 .byte, interfaces := #[16, 6], accessFlags := 1041 }

/-- the primitive int -/
def k19 : Class := { plain "int" none with kind := .primitive 'I', accessFlags := 0x411 }
/-- [I -/
def k20 : Class := { plain "[I" (some 0) with kind := .array 19 .int, interfaces := #[16, 6], accessFlags := 1041 }

def heap : Heap := #[{ cls := 8, slots := #[.ref 1, .null, .null, .null, .null], vm := .statics 8 },
  { cls := 8, slots := #[.null, .int 0, .int 0], vm := .none }]
def classes : Array Class := #[k0, k1, k2, k3, k4, k5, k6, k7, k8, k9, k10, k11, k12, k13, k14, k15, k16, k17, k18, k19, k20]
def interned : List (Array UInt16 × Addr) := []
def slotsUsed : Nat := 8
def theMethod : MethodId := ⟨1, 1⟩
def args0 : Array Value := #[.int 3, .int 4, .int 5, .int 6, .int 7, .int 8]
def aboutOver (below : List Frame) : State where
  vm := { classes := classes, interned := interned.toArray }
  heap := heap
  slotsUsed := slotsUsed
  threads := #[{ frames := .invoking theMethod args0 :: below }]
def below0 : List Frame := [.native { method := ⟨0, 0⟩, args := #[] }]
def about1 : State := aboutOver below0
def p0 : Program := .bare "" "" ""
def e0 : Env := launch0.env 0 0 0
theorem w_frames : about1.frames = Frame.invoking theMethod args0 :: below0 := rfl
set_option maxRecDepth 65536 in
theorem w_args : argsFit about1.vm theMethod args0 = true := by decide +kernel
set_option maxRecDepth 65536 in
theorem w_heap : heapFits about1 = true := by decide +kernel
set_option maxRecDepth 65536 in
theorem w_runnable : about1.curStatus? = some .runnable := by decide +kernel
set_option maxRecDepth 65536 in
theorem w_alone : about1.alone = true := by decide +kernel
set_option maxRecDepth 65536 in
theorem w_named : about1.methodNamed? x = some theMethod := by decide +kernel
set_option maxRecDepth 65536 in
theorem w_hears : about1.hears theMethod below0 = true := by decide +kernel
set_option maxRecDepth 65536 in
theorem w_ripe : about1.ripe theMethod args0 below0 = true := by decide +kernel
theorem w_running : about1.status = .running := rfl
set_option maxRecDepth 65536 in
theorem w_room : about1.hasRoom e0.platform room_1 = true :=
  launch0.hasRoom_least _ room_1 (by decide +kernel) (by decide +kernel) (by decide +kernel) (by decide +kernel) (by decide +kernel) (by decide +kernel)
theorem allAtoms_all (ts : List Jvm.Cond) (a : Array Jvm.Value) (st : Jvm.State) : (allAtoms ts).before a st = ts.all (fun c => c.before a st) := by
  induction ts with
  | nil => rfl
  | cons c t ih =>
    show (Jvm.Cond.and c (allAtoms t)).before a st = _
    rw [Jvm.Cond.before_and, ih, List.all_cons]
def words1 : List Jvm.Cond := Jvm.Cond.code x code maxLocals ret :: tables_1
/-- a 'code' word, met by the world's own term for the bytes: nothing is compared byte by byte -/
theorem code_word {y : MethodName} {bytes : ByteArray} {mx : Nat} {rt : Option FieldType} {a : Array Value} {s : State} {m : MethodId} {meth : Method} {c : Code} (h1 : s.methodNamed? y = some m) (h2 : s.vm.method? m = some meth) (h3 : meth.code = some c) (h4 : c.code = bytes)
    (h5 : (c.maxLocals == mx && c.exceptionTable.isEmpty && decide (c.maxStack ≤ mostOperands) && decide (meth.sig.returnType = rt) && !meth.locks && decide (parseMethodDescriptor y.desc = some meth.sig)) = true) : (Jvm.Cond.code y bytes mx rt).before a s = true := by
  simp only [Bool.and_eq_true, beq_iff_eq, Bool.not_eq_true', decide_eq_true_eq] at h5
  obtain ⟨⟨⟨⟨⟨g1, g2⟩, g3⟩, g4⟩, g5⟩, g6⟩ := h5
  simp [Cond.before, Cond.holds, Cond.value, h1, h2, h3, h4, g1, g2, g3, g4, g5, g6]
def isCode : Jvm.Cond → Bool
  | .code _ _ _ _ => true
  | _ => false
theorem all_split {L : List Jvm.Cond} {P : Jvm.Cond → Bool} (h1 : L.all (fun c => isCode c || P c) = true) (h2 : ∀ c ∈ L.filter isCode, P c = true) : L.all P = true := by
  refine List.all_eq_true.mpr fun c hc => ?_
  have h := List.all_eq_true.mp h1 c hc
  rcases Bool.eq_false_or_eq_true (isCode c) with hi | hi
  · exact h2 c (List.mem_filter.mpr ⟨hc, hi⟩)
  · simpa [hi] using h
set_option maxRecDepth 65536 in
theorem w_c0 : (Jvm.Cond.code x code maxLocals ret).before args0 about1 = true := code_word (m := ⟨1, 1⟩) (meth := k1m1) (c := k1c1) (by decide +kernel) rfl rfl rfl (by decide +kernel)
set_option maxRecDepth 65536 in
theorem w_c1 : (Jvm.Cond.code ({ cls := "com/example/likely_match/likelymatch/ranking/Bm25", name := "<init>", desc := "(DDLcom/example/likely_match/likelymatch/ranking/Idf;D)V" } : Jvm.MethodName) prog_43_method_2_code (8 : Nat) (Option.none : Option Jvm.ClassFile.FieldType)).before args0 about1 = true := code_word (m := ⟨3, 0⟩) (meth := k3m0) (c := k3c0) (by decide +kernel) rfl rfl rfl (by decide +kernel)
set_option maxRecDepth 65536 in
theorem w_c2 : (Jvm.Cond.code ({ cls := "java/lang/Object", name := "<init>", desc := "()V" } : Jvm.MethodName) object_method_1_code (1 : Nat) (Option.none : Option Jvm.ClassFile.FieldType)).before args0 about1 = true := code_word (m := ⟨0, 0⟩) (meth := k0m0) (c := k0c0) (by decide +kernel) rfl rfl rfl (by decide +kernel)
set_option maxRecDepth 65536 in
theorem w_c3 : (Jvm.Cond.code ({ cls := "java/lang/Double", name := "isInfinite", desc := "(D)Z" } : Jvm.MethodName) jdk_117_method_7_code (2 : Nat) (Option.some Jvm.ClassFile.FieldType.boolean)).before args0 about1 = true := code_word (m := ⟨11, 0⟩) (meth := k11m0) (c := k11c0) (by decide +kernel) rfl rfl rfl (by decide +kernel)
set_option maxRecDepth 65536 in
theorem w_c4 : (Jvm.Cond.code ({ cls := "java/lang/Math", name := "abs", desc := "(D)D" } : Jvm.MethodName) jdk_29_method_64_code (2 : Nat) (Option.some Jvm.ClassFile.FieldType.double)).before args0 about1 = true := code_word (m := ⟨12, 1⟩) (meth := k12m1) (c := k12c1) (by decide +kernel) rfl rfl rfl (by decide +kernel)
set_option maxRecDepth 65536 in
theorem w_c5 : (Jvm.Cond.code ({ cls := "java/util/Objects", name := "requireNonNull", desc := "(Ljava/lang/Object;Ljava/lang/String;)Ljava/lang/Object;" } : Jvm.MethodName) jdk_31_method_11_code (2 : Nat) (Option.some (Jvm.ClassFile.FieldType.object "java/lang/Object"))).before args0 about1 = true := code_word (m := ⟨15, 1⟩) (meth := k15m1) (c := k15c1) (by decide +kernel) rfl rfl rfl (by decide +kernel)
set_option maxRecDepth 65536 in
theorem w_c6 : (Jvm.Cond.code ({ cls := "com/example/likely_match/likelymatch/ranking/Bm25", name := "weight", desc := "(DIID)D" } : Jvm.MethodName) prog_43_method_4_code (9 : Nat) (Option.some Jvm.ClassFile.FieldType.double)).before args0 about1 = true := code_word (m := ⟨3, 1⟩) (meth := k3m1) (c := k3c1) (by decide +kernel) rfl rfl rfl (by decide +kernel)
def codes1 : List Jvm.Cond := [Jvm.Cond.code x code maxLocals ret, Jvm.Cond.code ({ cls := "com/example/likely_match/likelymatch/ranking/Bm25", name := "<init>", desc := "(DDLcom/example/likely_match/likelymatch/ranking/Idf;D)V" } : Jvm.MethodName) prog_43_method_2_code (8 : Nat) (Option.none : Option Jvm.ClassFile.FieldType), Jvm.Cond.code ({ cls := "java/lang/Object", name := "<init>", desc := "()V" } : Jvm.MethodName) object_method_1_code (1 : Nat) (Option.none : Option Jvm.ClassFile.FieldType), Jvm.Cond.code ({ cls := "java/lang/Double", name := "isInfinite", desc := "(D)Z" } : Jvm.MethodName) jdk_117_method_7_code (2 : Nat) (Option.some Jvm.ClassFile.FieldType.boolean), Jvm.Cond.code ({ cls := "java/lang/Math", name := "abs", desc := "(D)D" } : Jvm.MethodName) jdk_29_method_64_code (2 : Nat) (Option.some Jvm.ClassFile.FieldType.double), Jvm.Cond.code ({ cls := "java/util/Objects", name := "requireNonNull", desc := "(Ljava/lang/Object;Ljava/lang/String;)Ljava/lang/Object;" } : Jvm.MethodName) jdk_31_method_11_code (2 : Nat) (Option.some (Jvm.ClassFile.FieldType.object "java/lang/Object")), Jvm.Cond.code ({ cls := "com/example/likely_match/likelymatch/ranking/Bm25", name := "weight", desc := "(DIID)D" } : Jvm.MethodName) prog_43_method_4_code (9 : Nat) (Option.some Jvm.ClassFile.FieldType.double)]
set_option maxRecDepth 65536 in
theorem codes_eq : words1.filter isCode = codes1 := rfl
theorem w_codes : ∀ c ∈ words1.filter isCode, c.before args0 about1 = true := by
  rw [codes_eq]
  intro c hc
  simp only [codes1, List.mem_cons, List.not_mem_nil, or_false] at hc
  rcases hc with rfl | rfl | rfl | rfl | rfl | rfl | rfl
  · exact w_c0
  · exact w_c1
  · exact w_c2
  · exact w_c3
  · exact w_c4
  · exact w_c5
  · exact w_c6
set_option maxRecDepth 65536 in
theorem w_t1 : (words1.take 24).all (fun c => isCode c || c.before args0 about1) = true := by decide +kernel
set_option maxRecDepth 65536 in
theorem w_t2 : ((words1.drop 24).take 24).all (fun c => isCode c || c.before args0 about1) = true := by decide +kernel
set_option maxRecDepth 65536 in
theorem w_t3 : ((words1.drop 24).drop 24).all (fun c => isCode c || c.before args0 about1) = true := by decide +kernel
theorem w_tables : (allAtoms (Jvm.Cond.code x code maxLocals ret :: tables_1)).before args0 about1 = true := by
  rw [allAtoms_all]
  show words1.all (fun c => c.before args0 about1) = true
  refine all_split ?_ w_codes
  rw [← List.take_append_drop 24 words1, List.all_append, w_t1, ← List.take_append_drop 24 (words1.drop 24), List.all_append, w_t2, w_t3]
  rfl
set_option maxRecDepth 65536 in
theorem w_case : (Jvm.Cond.and given_1 narrow_1).before args0 about1 = true := by decide +kernel
theorem w_applies : (headSpec (Jvm.Cond.code x code maxLocals ret :: tables_1) room_1).applies x e0.platform about1 = true :=
  (Spec.applies_iff w_frames).mpr ⟨w_running, w_runnable, w_alone, w_named, w_hears, w_ripe, w_room, w_tables⟩
theorem atStart : AtStart classFile x code maxLocals ret World_1 tables_1 room_1 Calls_1 rest_1 Pre_1 launch0 p0 e0 about1 theMethod args0 below0 :=
  ⟨lists_1, trivial, launch0.admits_env _ _ _, launch0.least_env, fairChoices_fair.cas, fairChoices_fair.clock, w_frames, w_args, w_heap, w_applies, trivial, trivial, w_case⟩
end start1
theorem witness_1 : WitnessClaimed_1 := ⟨start1.p0, start1.e0, start1.about1, start1.theMethod, start1.args0, start1.below0, start1.atStart⟩
end Jvm.Pilot.@@N@@
