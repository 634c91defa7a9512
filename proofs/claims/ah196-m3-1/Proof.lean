import JvmDerived
import JvmDerived.Pilot.@@N@@Statement
import JvmDerived.Pilot.@@N@@Code
set_option linter.unusedVariables false
set_option linter.unusedSimpArgs false
namespace Jvm.Pilot.@@N@@
open Jvm Jvm.ClassFile Sem Op Lib Jvm.Free Jvm.Stand Jvm.LawKit Jvm.RoadKit Bundle Jvm.Pilot.@@N@@.Jvm.D
/-! OWN PRELUDE. What the walk knows of the objects that it made: a list of (address, what stands there): an array with its components, or an object with its fields. -/
abbrev oDsc : Type := Sum (FieldType × List Value) (String × List (String × String × String × Value))
abbrev oDs : Type := List (Addr × oDsc)
def oAt (Z : State) (h : Heap) (a : Addr) (d : oDsc) : Prop := match d with
  | .inl (ty, vs) => ∃ c : Cell, Arr Z h a c ty ∧ c.slots = vs.toArray
  | .inr (C, fs) => Exa Z h a C ∧ ∀ f ∈ fs, Fld Z h a f.1 f.2.1 f.2.2.1 f.2.2.2
def oMem (Z : State) (h0 h : Heap) (ds : oDs) : Prop :=
  Ext h0 h ∧ (∀ (i j : Nat) (x y : Addr × oDsc), i < j → ds[i]? = some x → ds[j]? = some y → x.1 < y.1) ∧ ∀ (i : Nat) (x : Addr × oDsc), ds[i]? = some x → h0.size ≤ x.1 ∧ oAt Z h x.1 x.2
theorem oExt_refl (h : Heap) : Ext h h := ⟨Nat.le_refl _, fun _ _ q => q⟩
theorem oMem.start (Z : State) (h : Heap) : oMem Z h h [] := ⟨oExt_refl h, fun _ _ _ _ _ q => by simp at q, fun _ _ q => by simp at q⟩
theorem oAt.lt {Z : State} {h : Heap} {a : Addr} {d : oDsc} (A : oAt Z h a d) : a < h.size := by
  rcases d with ⟨ty, vs⟩ | ⟨C, fs⟩
  · obtain ⟨c, A, -⟩ := A; exact A.lt
  · exact A.1.lt
theorem oAt.ext {Z : State} {h h' : Heap} {a : Addr} {d : oDsc} (A : oAt Z h a d) (E : Ext h h') : oAt Z h' a d := by
  rcases d with ⟨ty, vs⟩ | ⟨C, fs⟩
  · obtain ⟨c, A, q⟩ := A; exact ⟨c, A.ext E, q⟩
  · exact ⟨A.1.ext E, fun f hf => (A.2 f hf).ext E⟩
theorem oAt.other {Z : State} {h h' : Heap} {a b : Addr} {sl : Nat} {v : Value} {d : oDsc} (A : oAt Z h b d) (W : Wr h h' a sl v) (q : b ≠ a) : oAt Z h' b d := by
  rcases d with ⟨ty, vs⟩ | ⟨C, fs⟩
  · obtain ⟨c, A, r⟩ := A; exact ⟨c, A.other W q, r⟩
  · exact ⟨A.1.wr W, fun f hf => (A.2 f hf).other W (Or.inl q)⟩
theorem oMem.push {Z : State} {h0 h h' : Heap} {ds : oDs} {d : oDsc} (M : oMem Z h0 h ds) (E : Ext h h') (A : oAt Z h' h.size d) : oMem Z h0 h' (ds ++ [(h.size, d)]) := by
  obtain ⟨M1, M2, M3⟩ := M
  refine ⟨⟨Nat.le_trans M1.1 E.1, fun a c q => E.2 a c (M1.2 a c q)⟩, fun i j x y hij hi hj => ?_, fun i x hi => ?_⟩
  · rw [List.getElem?_append] at hi hj
    split at hj
    · rw [if_pos (by omega)] at hi; exact M2 i j x y hij hi hj
    · rename_i nj
      have hjl : j - ds.length = 0 := by
        rcases Nat.eq_zero_or_pos (j - ds.length) with q | q
        · exact q
        · rw [List.getElem?_eq_none (by simp; omega)] at hj; cases hj
      rw [hjl] at hj; cases hj
      rw [if_pos (by omega)] at hi
      exact (M3 i x hi).2.lt
  · rw [List.getElem?_append] at hi
    split at hi
    · exact ⟨(M3 i x hi).1, (M3 i x hi).2.ext E⟩
    · rename_i ni
      have hil : i - ds.length = 0 := by
        rcases Nat.eq_zero_or_pos (i - ds.length) with q | q
        · exact q
        · rw [List.getElem?_eq_none (by simp; omega)] at hi; cases hi
      rw [hil] at hi; cases hi
      exact ⟨M1.1, A⟩
theorem oMem.put {Z : State} {h0 h h' : Heap} {ds : oDs} {i : Nat} {a : Addr} {d d' : oDsc} {sl : Nat} {v : Value} (M : oMem Z h0 h ds) (hi : ds[i]? = some (a, d)) (W : Wr h h' a sl v) (A : oAt Z h' a d') : oMem Z h0 h' (ds.set i (a, d')) := by
  obtain ⟨M1, M2, M3⟩ := M
  have ha := (M3 i _ hi).1
  have hlt : i < ds.length := (List.getElem?_eq_some_iff.mp hi).1
  have fst : ∀ (j : Nat) (x : Addr × oDsc), (ds.set i (a, d'))[j]? = some x → ∃ y : Addr × oDsc, ds[j]? = some y ∧ y.1 = x.1 := fun j x hx => by
    rw [List.getElem?_set] at hx
    split at hx
    · rename_i e; subst e; cases hx; exact ⟨_, hi, rfl⟩
    · exact ⟨x, hx, rfl⟩
  refine ⟨⟨Nat.le_trans M1.1 (Nat.le_of_eq W.size.symm), fun x c q => ?_⟩, fun j k x y hjk hj hk => ?_, fun j x hx => ?_⟩
  · obtain ⟨c', q1, -, -, -, q5, -⟩ := wr_at W (M1.2 x c q)
    have : x ≠ a := Nat.ne_of_lt (Nat.lt_of_lt_of_le (Array.getElem?_eq_some_iff.mp q).1 ha)
    rw [← q5 this]; exact q1
  · obtain ⟨x', hx', ex⟩ := fst j x hj
    obtain ⟨y', hy', ey⟩ := fst k y hk
    rw [← ex, ← ey]; exact M2 j k x' y' hjk hx' hy'
  · rw [List.getElem?_set] at hx
    split at hx
    · rename_i e; subst e; cases hx; exact ⟨ha, A⟩
    · rename_i e
      refine ⟨(M3 j x hx).1, (M3 j x hx).2.other W fun q => ?_⟩
      rcases Nat.lt_or_gt_of_ne e with r | r
      · have := M2 i j _ _ r hi hx; rw [q] at this; exact Nat.lt_irrefl _ this
      · have := M2 j i _ _ r hx hi; rw [q] at this; exact Nat.lt_irrefl _ this
/-- the fields' places are unlike -/
def oApart (Z : State) (fs : List (String × String × String × Value)) : Prop :=
  ∀ (i j : Nat) (f g : String × String × String × Value), i ≠ j → fs[i]? = some f → fs[j]? = some g → Jvm.RoadKit.slotOf Z f.1 f.2.1 f.2.2.1 ≠ Jvm.RoadKit.slotOf Z g.1 g.2.1 g.2.2.1
theorem oApart.of {Z : State} {a0 : Array Value} {C : String} {fs : List (String × String × String × Value)} (hL : ∀ f ∈ fs, Laid Z a0 C f.1 f.2.1 f.2.2.1 ∧ ∃ t, parseFieldDescriptor f.2.2.1 = some t) (hn : (fs.map fun f => f.2.1).Nodup) : oApart Z fs := fun i j f g hij hi hj => by
  obtain ⟨L1, t1, p1⟩ := hL f (List.mem_of_getElem? hi)
  obtain ⟨L2, t2, p2⟩ := hL g (List.mem_of_getElem? hj)
  refine slot_ne L1 L2 (fun q => hij ?_) p1 p2
  have e1 : (fs.map fun f => f.2.1)[i]? = some f.2.1 := by rw [List.getElem?_map, hi]; rfl
  have e2 : (fs.map fun f => f.2.1)[j]? = some g.2.1 := by rw [List.getElem?_map, hj]; rfl
  rw [q] at e1
  have l1 := (List.getElem?_eq_some_iff.mp e1).1
  exact (List.getElem?_inj l1 hn).mp (e1.trans e2.symm)
/-- what a walk's texts share: the machine, the tables, the body's bytes, its class, its result's type, its name -/
def oK (p : Program) (s : State) (m : MethodId) (meth : Method) (c : Code) (Z : State) (own : String) (by0 : ByteArray) (ml : Nat) (ret : Option FieldType) (nm : String) : Prop :=
  (p.tables.exec = Jvm.exec ∧ Z.Warmed39 s.vm ∧ c.code = by0 ∧ c.maxLocals = ml) ∧ s.vm.findClass own = some m.cls ∧ meth.sig.returnType = ret ∧ meth.locks = false ∧ meth.name = nm
theorem oK.since {p : Program} {s : State} {m : MethodId} {meth : Method} {c : Code} {Z : State} {own nm : String} {by0 : ByteArray} {ml : Nat} {ret : Option FieldType} {vm0 : Vm} {k0 : Nat} (K : oK p s m meth c Z own by0 ml ret nm) (hS : s.Since vm0 k0) : oK p (s.setVm vm0) m meth c Z own by0 ml ret nm :=
  ⟨⟨K.1.1, State.Warmed39.trans K.1.2.1 hS.1, K.1.2.2⟩, (hS.1.alike.findClass _ _).trans K.2.1, K.2.2⟩
theorem oMem.ext {Z : State} {h0 h h' : Heap} {ds : oDs} (M : oMem Z h0 h ds) (E : Ext h h') : oMem Z h0 h' ds := ⟨⟨Nat.le_trans M.1.1 E.1, fun a c q => E.2 a c (M.1.2 a c q)⟩, M.2.1, fun i x q => ⟨(M.2.2 i x q).1, (M.2.2 i x q).2.ext E⟩⟩
/-- the walk stands at T, knows ds of what it made, and has booked cells and slots -/
def oIn (p : Program) (l : Launch) (e : Env) (R : Room) (s : State) (m : MethodId) (args : Array Value) (below : List Frame) (meth : Method) (c : Code) (Z : State) (h0 : Heap) (T : State) (ds : oDs) (cells slots : Nat) : Prop :=
  ∃ (vm0 : Vm) (k0 : Nat) (locs : List Loc), Stand p l e R (s.setVm vm0) m args below meth c T locs cells slots ∧ s.Since vm0 k0 ∧ k0 ≤ T.heap.size ∧ Fr h0.size locs ∧ oMem Z h0 T.heap ds
/-- the run from T with the frame g returns, and P holds of what it returns and of what it leaves -/
def oEnds (p : Program) (e : Env) (R : Room) (s : State) (below : List Frame) (Z : State) (h0 : Heap) (P : Option Value → oDs → Prop) (T : State) (g : JFrame) : Prop :=
  ∃ s₂ o, Steps p.tables e below (T.setTop g) s₂ ∧ s₂.status = .running ∧ Ended s₂ below o ∧ ∃ v L, o = .returned v ∧ (Fr h0.size L ∧ ∃ ds', P v ds' ∧ oMem Z h0 s₂.heap ds') ∧ ReturnedEndW s o s₂ L R.cells R.slots
/-- from every state that knows ds, at pc with these locals and this stack, the body returns as P says -/
def oW (p : Program) (l : Launch) (e : Env) (R : Room) (s : State) (m : MethodId) (args : Array Value) (below : List Frame) (meth : Method) (c : Code) (Z : State) (h0 : Heap) (P : Option Value → oDs → Prop) (ds : oDs) (cells slots pc : Nat) (Ls : Array Slot) (S : List Value) : Prop :=
  ∀ T, oIn p l e R s m args below meth c Z h0 T ds cells slots → oEnds p e R s below Z h0 P T (mkF m pc Ls S)
/-- a body's contract: called with as' where the objects made are ds, it returns as P says, within the room rm -/
def oCtr (l : Launch) (Z : State) (h0 : Heap) (ws : List Jvm.Cond) (y : MethodName) (by0 : ByteArray) (ml : Nat) (ret : Option FieldType) (rm : Room) (as' : Array Value) (ds : oDs) (P : Option Value → oDs → Prop) : Prop :=
  ∀ h, oMem Z h0 h ds → MetFree l y (head1 (Jvm.Cond.code y by0 ml ret :: ws) rm) (fun a U => a = as' ∧ Z.Warmed39 U.vm ∧ U.heap = h) (fun _ _ _ _ _ => True)
    (fun _ U o U' => ∃ v L, o = .returned v ∧ (Fr h0.size L ∧ ∃ ds', P v ds' ∧ oMem Z h0 U'.heap ds') ∧ ReturnedEndW U o U' L rm.cells rm.slots)
def oVal (P2 : Value → oDs → Prop) (v : Option Value) (ds : oDs) : Prop := ∃ w, v = some w ∧ P2 w ds
def oVoid (P3 : oDs → Prop) (v : Option Value) (ds : oDs) : Prop := v = none ∧ P3 ds
theorem oCtr.of {l : Launch} {Z : State} {h0 : Heap} {ws : List Jvm.Cond} {y : MethodName} {by0 : ByteArray} {ml : Nat} {ret : Option FieldType} {rm : Room} {as' : Array Value} {ds : oDs} {P : Option Value → oDs → Prop} {Ls : Array Slot}
    (hpl : plainFor y = true) (hef : ∀ m, entryFrame m as' ml = mkF m 0 Ls [])
    (hb : ∀ p e s m below meth c, oK p s m meth c Z y.cls by0 ml ret y.name → oW p l e rm s m as' below meth c Z h0 P ds 0 0 0 Ls []) : oCtr l Z h0 ws y by0 ml ret rm as' ds P := by
  intro h M
  refine MetFree.of_bodySF hpl hisR ?_
  intro p e s m args below meth c s₁ Bd hml0 hP hK
  obtain ⟨rfl, hZ, hh⟩ := hP
  have e0 : s₁.heap = h := by rw [← hh, Bd.state]; rfl
  have K : oK p s m meth c Z y.cls by0 ml ret y.name := ⟨⟨Bd.exec, hZ, Bd.bytes, hml0⟩, findClass_of_methodNamed Bd.named, Bd.returns, Bd.notSynchronized, (name_of_methodNamed Bd.named Bd.method).1⟩
  obtain ⟨s₂, o, h1, h2⟩ := hb p e s m below meth c K s₁ ⟨s.vm, 0, [], by rw [State.setVm_self]; exact Stand.of_body Bd, (State.WarmedH.refl s).since 0, Nat.zero_le _, Fr.nil _, by rw [e0]; exact M⟩
  exact ⟨s₂, o, castTop (hef m) h1, h2⟩
section Steps
variable {p : Program} {l : Launch} {e : Env} {R : Room} {s : State} {m : MethodId} {args : Array Value} {below : List Frame} {meth : Method} {c : Code} {Z : State} {h0 : Heap} {own nm : String} {by0 : ByteArray} {ml : Nat} {ret : Option FieldType} {P : Option Value → oDs → Prop} {ds ds' : oDs} {cells slots pc pc' : Nat} {Ls Ls' : Array Slot} {S S' : List Value} {a0 : Array Value}
theorem oW.pure (st : ∀ (vm0 : Vm) (k0 : Nat), s.Since vm0 k0 → ∀ T locs, Stand p l e R (s.setVm vm0) m args below meth c T locs cells slots → ∀ t, Steps p.tables e below (T.setTop (mkF m pc' Ls' S')) t → Steps p.tables e below (T.setTop (mkF m pc Ls S)) t) (hr : oW p l e R s m args below meth c Z h0 P ds cells slots pc' Ls' S') : oW p l e R s m args below meth c Z h0 P ds cells slots pc Ls S := by
  rintro T ⟨vm0, k0, locs, X, hS, hK0, N, M⟩
  obtain ⟨s₂, o, h1, h2⟩ := hr T ⟨vm0, k0, locs, X, hS, hK0, N, M⟩
  exact ⟨s₂, o, st vm0 k0 hS T locs X _ h1, h2⟩
theorem oW.ends {T T' : State} {g g' : JFrame} (st : ∀ t, Steps p.tables e below (T'.setTop g') t → Steps p.tables e below (T.setTop g) t) (hr : oEnds p e R s below Z h0 P T' g') : oEnds p e R s below Z h0 P T g := by
  obtain ⟨s₂, o, h1, h2⟩ := hr
  exact ⟨s₂, o, st _ h1, h2⟩
theorem oW.join {α : Type} {F : α → Prop} {pcj : Nat} {Lf : α → Array Slot} {Sf : α → List Value} {dsf : α → oDs} (h1 : (∀ z, F z → oW p l e R s m args below meth c Z h0 P (dsf z) cells slots pcj (Lf z) (Sf z)) → oW p l e R s m args below meth c Z h0 P ds cells slots pc Ls S) (h2 : ∀ z, F z → oW p l e R s m args below meth c Z h0 P (dsf z) cells slots pcj (Lf z) (Sf z)) : oW p l e R s m args below meth c Z h0 P ds cells slots pc Ls S := h1 h2
theorem oW.iload (K : oK p s m meth c Z own by0 ml ret nm) {k : Nat} {v : Int32} (hd : decode by0 pc = .ok (.iload k, 2)) (hl : Ls[k]? = some (.val (.int v))) (hp : pc + 2 = pc') (hr : oW p l e R s m args below meth c Z h0 P ds cells slots pc' Ls (.int v :: S)) : oW p l e R s m args below meth c Z h0 P ds cells slots pc Ls (S) := by
  subst hp
  exact oW.pure (fun vm0 k0 hS T locs X t k => XS.iload X.here K.1.1 rfl (hb K.1.2.2.1 hd) hl k) hr
theorem oW.iloadN (K : oK p s m meth c Z own by0 ml ret nm) {k : Fin 4} {v : Int32} (hd : decode by0 pc = .ok (.iload_n k, 1)) (hl : Ls[k.val]? = some (.val (.int v))) (hp : pc + 1 = pc') (hr : oW p l e R s m args below meth c Z h0 P ds cells slots pc' Ls (.int v :: S)) : oW p l e R s m args below meth c Z h0 P ds cells slots pc Ls (S) := by
  subst hp
  exact oW.pure (fun vm0 k0 hS T locs X t k => XS.iloadN X.here K.1.1 rfl (hb K.1.2.2.1 hd) hl k) hr
theorem oW.istore (K : oK p s m meth c Z own by0 ml ret nm) {k : Nat} {v : Int32} (hd : decode by0 pc = .ok (.istore k, 2)) (hl : storeLocals Ls k (.int v) = some Ls') (hp : pc + 2 = pc') (hr : oW p l e R s m args below meth c Z h0 P ds cells slots pc' Ls' (S)) : oW p l e R s m args below meth c Z h0 P ds cells slots pc Ls (.int v :: S) := by
  subst hp
  exact oW.pure (fun vm0 k0 hS T locs X t k => XS.istore X.here K.1.1 rfl (hb K.1.2.2.1 hd) rfl hl k) hr
theorem oW.istoreN (K : oK p s m meth c Z own by0 ml ret nm) {k : Fin 4} {v : Int32} (hd : decode by0 pc = .ok (.istore_n k, 1)) (hl : storeLocals Ls k.val (.int v) = some Ls') (hp : pc + 1 = pc') (hr : oW p l e R s m args below meth c Z h0 P ds cells slots pc' Ls' (S)) : oW p l e R s m args below meth c Z h0 P ds cells slots pc Ls (.int v :: S) := by
  subst hp
  exact oW.pure (fun vm0 k0 hS T locs X t k => XS.istoreN X.here K.1.1 rfl (hb K.1.2.2.1 hd) rfl hl k) hr
theorem oW.lload (K : oK p s m meth c Z own by0 ml ret nm) {k : Nat} {v : Int64} (hd : decode by0 pc = .ok (.lload k, 2)) (hl : Ls[k]? = some (.val (.long v))) (hp : pc + 2 = pc') (hr : oW p l e R s m args below meth c Z h0 P ds cells slots pc' Ls (.long v :: S)) : oW p l e R s m args below meth c Z h0 P ds cells slots pc Ls (S) := by
  subst hp
  exact oW.pure (fun vm0 k0 hS T locs X t k => XS.lload X.here K.1.1 rfl (hb K.1.2.2.1 hd) hl k) hr
theorem oW.lloadN (K : oK p s m meth c Z own by0 ml ret nm) {k : Fin 4} {v : Int64} (hd : decode by0 pc = .ok (.lload_n k, 1)) (hl : Ls[k.val]? = some (.val (.long v))) (hp : pc + 1 = pc') (hr : oW p l e R s m args below meth c Z h0 P ds cells slots pc' Ls (.long v :: S)) : oW p l e R s m args below meth c Z h0 P ds cells slots pc Ls (S) := by
  subst hp
  exact oW.pure (fun vm0 k0 hS T locs X t k => XS.lloadN X.here K.1.1 rfl (hb K.1.2.2.1 hd) hl k) hr
theorem oW.lstore (K : oK p s m meth c Z own by0 ml ret nm) {k : Nat} {v : Int64} (hd : decode by0 pc = .ok (.lstore k, 2)) (hl : storeLocals Ls k (.long v) = some Ls') (hp : pc + 2 = pc') (hr : oW p l e R s m args below meth c Z h0 P ds cells slots pc' Ls' (S)) : oW p l e R s m args below meth c Z h0 P ds cells slots pc Ls (.long v :: S) := by
  subst hp
  exact oW.pure (fun vm0 k0 hS T locs X t k => XS.lstore X.here K.1.1 rfl (hb K.1.2.2.1 hd) rfl hl k) hr
theorem oW.lstoreN (K : oK p s m meth c Z own by0 ml ret nm) {k : Fin 4} {v : Int64} (hd : decode by0 pc = .ok (.lstore_n k, 1)) (hl : storeLocals Ls k.val (.long v) = some Ls') (hp : pc + 1 = pc') (hr : oW p l e R s m args below meth c Z h0 P ds cells slots pc' Ls' (S)) : oW p l e R s m args below meth c Z h0 P ds cells slots pc Ls (.long v :: S) := by
  subst hp
  exact oW.pure (fun vm0 k0 hS T locs X t k => XS.lstoreN X.here K.1.1 rfl (hb K.1.2.2.1 hd) rfl hl k) hr
theorem oW.dload (K : oK p s m meth c Z own by0 ml ret nm) {k : Nat} {v : UInt64} (hd : decode by0 pc = .ok (.dload k, 2)) (hl : Ls[k]? = some (.val (.double v))) (hp : pc + 2 = pc') (hr : oW p l e R s m args below meth c Z h0 P ds cells slots pc' Ls (.double v :: S)) : oW p l e R s m args below meth c Z h0 P ds cells slots pc Ls (S) := by
  subst hp
  exact oW.pure (fun vm0 k0 hS T locs X t k => XS.dload X.here K.1.1 rfl (hb K.1.2.2.1 hd) hl k) hr
theorem oW.dloadN (K : oK p s m meth c Z own by0 ml ret nm) {k : Fin 4} {v : UInt64} (hd : decode by0 pc = .ok (.dload_n k, 1)) (hl : Ls[k.val]? = some (.val (.double v))) (hp : pc + 1 = pc') (hr : oW p l e R s m args below meth c Z h0 P ds cells slots pc' Ls (.double v :: S)) : oW p l e R s m args below meth c Z h0 P ds cells slots pc Ls (S) := by
  subst hp
  exact oW.pure (fun vm0 k0 hS T locs X t k => XS.dloadN X.here K.1.1 rfl (hb K.1.2.2.1 hd) hl k) hr
theorem oW.dstore (K : oK p s m meth c Z own by0 ml ret nm) {k : Nat} {v : UInt64} (hd : decode by0 pc = .ok (.dstore k, 2)) (hl : storeLocals Ls k (.double v) = some Ls') (hp : pc + 2 = pc') (hr : oW p l e R s m args below meth c Z h0 P ds cells slots pc' Ls' (S)) : oW p l e R s m args below meth c Z h0 P ds cells slots pc Ls (.double v :: S) := by
  subst hp
  exact oW.pure (fun vm0 k0 hS T locs X t k => XS.dstore X.here K.1.1 rfl (hb K.1.2.2.1 hd) rfl hl k) hr
theorem oW.dstoreN (K : oK p s m meth c Z own by0 ml ret nm) {k : Fin 4} {v : UInt64} (hd : decode by0 pc = .ok (.dstore_n k, 1)) (hl : storeLocals Ls k.val (.double v) = some Ls') (hp : pc + 1 = pc') (hr : oW p l e R s m args below meth c Z h0 P ds cells slots pc' Ls' (S)) : oW p l e R s m args below meth c Z h0 P ds cells slots pc Ls (.double v :: S) := by
  subst hp
  exact oW.pure (fun vm0 k0 hS T locs X t k => XS.dstoreN X.here K.1.1 rfl (hb K.1.2.2.1 hd) rfl hl k) hr
theorem oW.aload (K : oK p s m meth c Z own by0 ml ret nm) {k : Nat} {v : Value} (hd : decode by0 pc = .ok (.aload k, 2)) (hl : Ls[k]? = some (.val v)) (hv : v.isRef = true) (hp : pc + 2 = pc') (hr : oW p l e R s m args below meth c Z h0 P ds cells slots pc' Ls (v :: S)) : oW p l e R s m args below meth c Z h0 P ds cells slots pc Ls (S) := by
  subst hp
  exact oW.pure (fun vm0 k0 hS T locs X t k => XS.aload X.here K.1.1 rfl (hb K.1.2.2.1 hd) hl hv k) hr
theorem oW.aloadN (K : oK p s m meth c Z own by0 ml ret nm) {k : Fin 4} {v : Value} (hd : decode by0 pc = .ok (.aload_n k, 1)) (hl : Ls[k.val]? = some (.val v)) (hv : v.isRef = true) (hp : pc + 1 = pc') (hr : oW p l e R s m args below meth c Z h0 P ds cells slots pc' Ls (v :: S)) : oW p l e R s m args below meth c Z h0 P ds cells slots pc Ls (S) := by
  subst hp
  exact oW.pure (fun vm0 k0 hS T locs X t k => XS.aloadN X.here K.1.1 rfl (hb K.1.2.2.1 hd) hl hv k) hr
theorem oW.astore (K : oK p s m meth c Z own by0 ml ret nm) {k : Nat} {v : Value} (hd : decode by0 pc = .ok (.astore k, 2)) (hv : v.isRef = true) (hl : storeLocals Ls k v = some Ls') (hp : pc + 2 = pc') (hr : oW p l e R s m args below meth c Z h0 P ds cells slots pc' Ls' (S)) : oW p l e R s m args below meth c Z h0 P ds cells slots pc Ls (v :: S) := by
  subst hp
  exact oW.pure (fun vm0 k0 hS T locs X t k => XS.astore X.here K.1.1 rfl (hb K.1.2.2.1 hd) rfl hv hl k) hr
theorem oW.astoreN (K : oK p s m meth c Z own by0 ml ret nm) {k : Fin 4} {v : Value} (hd : decode by0 pc = .ok (.astore_n k, 1)) (hv : v.isRef = true) (hl : storeLocals Ls k.val v = some Ls') (hp : pc + 1 = pc') (hr : oW p l e R s m args below meth c Z h0 P ds cells slots pc' Ls' (S)) : oW p l e R s m args below meth c Z h0 P ds cells slots pc Ls (v :: S) := by
  subst hp
  exact oW.pure (fun vm0 k0 hS T locs X t k => XS.astoreN X.here K.1.1 rfl (hb K.1.2.2.1 hd) rfl hv hl k) hr
theorem oW.aconstNull (K : oK p s m meth c Z own by0 ml ret nm)  (hd : decode by0 pc = .ok (.aconst_null, 1))  (hp : pc + 1 = pc') (hr : oW p l e R s m args below meth c Z h0 P ds cells slots pc' Ls (.null :: S)) : oW p l e R s m args below meth c Z h0 P ds cells slots pc Ls (S) := by
  subst hp
  exact oW.pure (fun vm0 k0 hS T locs X t k => XS.aconstNull X.here K.1.1 rfl (hb K.1.2.2.1 hd) k) hr
theorem oW.iconst (K : oK p s m meth c Z own by0 ml ret nm) {i : Int} {v : Int32} (hd : decode by0 pc = .ok (.iconst i, 1)) (hv : v = Int32.ofInt i) (hp : pc + 1 = pc') (hr : oW p l e R s m args below meth c Z h0 P ds cells slots pc' Ls (.int v :: S)) : oW p l e R s m args below meth c Z h0 P ds cells slots pc Ls (S) := by
  subst hp hv
  exact oW.pure (fun vm0 k0 hS T locs X t k => XS.iconst X.here K.1.1 rfl (hb K.1.2.2.1 hd) k) hr
theorem oW.bipush (K : oK p s m meth c Z own by0 ml ret nm) {i : Int} {v : Int32} (hd : decode by0 pc = .ok (.bipush i, 2)) (hv : v = (Int8.ofInt i).toInt32) (hp : pc + 2 = pc') (hr : oW p l e R s m args below meth c Z h0 P ds cells slots pc' Ls (.int v :: S)) : oW p l e R s m args below meth c Z h0 P ds cells slots pc Ls (S) := by
  subst hp hv
  exact oW.pure (fun vm0 k0 hS T locs X t k => XS.bipush X.here K.1.1 rfl (hb K.1.2.2.1 hd) k) hr
theorem oW.sipush (K : oK p s m meth c Z own by0 ml ret nm) {i : Int} {v : Int32} (hd : decode by0 pc = .ok (.sipush i, 3)) (hv : v = (Int16.ofInt i).toInt32) (hp : pc + 3 = pc') (hr : oW p l e R s m args below meth c Z h0 P ds cells slots pc' Ls (.int v :: S)) : oW p l e R s m args below meth c Z h0 P ds cells slots pc Ls (S) := by
  subst hp hv
  exact oW.pure (fun vm0 k0 hS T locs X t k => XS.sipush X.here K.1.1 rfl (hb K.1.2.2.1 hd) k) hr
theorem oW.lconst (K : oK p s m meth c Z own by0 ml ret nm) {k : Fin 2} {v : Int64} (hd : decode by0 pc = .ok (.lconst k, 1)) (hv : v = Int64.ofNat k.val) (hp : pc + 1 = pc') (hr : oW p l e R s m args below meth c Z h0 P ds cells slots pc' Ls (.long v :: S)) : oW p l e R s m args below meth c Z h0 P ds cells slots pc Ls (S) := by
  subst hp hv
  exact oW.pure (fun vm0 k0 hS T locs X t k => XT.lconst X.here K.1.1 rfl (hb K.1.2.2.1 hd) k) hr
theorem oW.dconst0 (K : oK p s m meth c Z own by0 ml ret nm)  (hd : decode by0 pc = .ok (.dconst 0, 1))  (hp : pc + 1 = pc') (hr : oW p l e R s m args below meth c Z h0 P ds cells slots pc' Ls (.double 0 :: S)) : oW p l e R s m args below meth c Z h0 P ds cells slots pc Ls (S) := by
  subst hp
  exact oW.pure (fun vm0 k0 hS T locs X t k => XS.dconst0 X.here K.1.1 rfl (hb K.1.2.2.1 hd) rfl k) hr
theorem oW.dconst1 (K : oK p s m meth c Z own by0 ml ret nm)  (hd : decode by0 pc = .ok (.dconst 1, 1))  (hp : pc + 1 = pc') (hr : oW p l e R s m args below meth c Z h0 P ds cells slots pc' Ls (.double 4607182418800017408 :: S)) : oW p l e R s m args below meth c Z h0 P ds cells slots pc Ls (S) := by
  subst hp
  exact oW.pure (fun vm0 k0 hS T locs X t k => XS.dconst1 X.here K.1.1 rfl (hb K.1.2.2.1 hd) rfl k) hr
theorem oW.iadd (K : oK p s m meth c Z own by0 ml ret nm) {x y v : Int32} (hd : decode by0 pc = .ok (.iadd, 1)) (hv : v = x + y) (hp : pc + 1 = pc') (hr : oW p l e R s m args below meth c Z h0 P ds cells slots pc' Ls (.int v :: S)) : oW p l e R s m args below meth c Z h0 P ds cells slots pc Ls (.int y :: .int x :: S) := by
  subst hp hv
  exact oW.pure (fun vm0 k0 hS T locs X t k => XS.iadd X.here K.1.1 rfl (hb K.1.2.2.1 hd) rfl k) hr
theorem oW.ladd (K : oK p s m meth c Z own by0 ml ret nm) {x y v : Int64} (hd : decode by0 pc = .ok (.ladd, 1)) (hv : v = x + y) (hp : pc + 1 = pc') (hr : oW p l e R s m args below meth c Z h0 P ds cells slots pc' Ls (.long v :: S)) : oW p l e R s m args below meth c Z h0 P ds cells slots pc Ls (.long y :: .long x :: S) := by
  subst hp hv
  exact oW.pure (fun vm0 k0 hS T locs X t k => XT.ladd X.here K.1.1 rfl (hb K.1.2.2.1 hd) rfl k) hr
theorem oW.isub (K : oK p s m meth c Z own by0 ml ret nm) {x y v : Int32} (hd : decode by0 pc = .ok (.isub, 1)) (hv : v = x - y) (hp : pc + 1 = pc') (hr : oW p l e R s m args below meth c Z h0 P ds cells slots pc' Ls (.int v :: S)) : oW p l e R s m args below meth c Z h0 P ds cells slots pc Ls (.int y :: .int x :: S) := by
  subst hp hv
  exact oW.pure (fun vm0 k0 hS T locs X t k => XS.isub X.here K.1.1 rfl (hb K.1.2.2.1 hd) rfl k) hr
theorem oW.lsub (K : oK p s m meth c Z own by0 ml ret nm) {x y v : Int64} (hd : decode by0 pc = .ok (.lsub, 1)) (hv : v = x - y) (hp : pc + 1 = pc') (hr : oW p l e R s m args below meth c Z h0 P ds cells slots pc' Ls (.long v :: S)) : oW p l e R s m args below meth c Z h0 P ds cells slots pc Ls (.long y :: .long x :: S) := by
  subst hp hv
  exact oW.pure (fun vm0 k0 hS T locs X t k => XT.lsub X.here K.1.1 rfl (hb K.1.2.2.1 hd) rfl k) hr
theorem oW.imul (K : oK p s m meth c Z own by0 ml ret nm) {x y v : Int32} (hd : decode by0 pc = .ok (.imul, 1)) (hv : v = x * y) (hp : pc + 1 = pc') (hr : oW p l e R s m args below meth c Z h0 P ds cells slots pc' Ls (.int v :: S)) : oW p l e R s m args below meth c Z h0 P ds cells slots pc Ls (.int y :: .int x :: S) := by
  subst hp hv
  exact oW.pure (fun vm0 k0 hS T locs X t k => XS.imul X.here K.1.1 rfl (hb K.1.2.2.1 hd) rfl k) hr
theorem oW.lmul (K : oK p s m meth c Z own by0 ml ret nm) {x y v : Int64} (hd : decode by0 pc = .ok (.lmul, 1)) (hv : v = x * y) (hp : pc + 1 = pc') (hr : oW p l e R s m args below meth c Z h0 P ds cells slots pc' Ls (.long v :: S)) : oW p l e R s m args below meth c Z h0 P ds cells slots pc Ls (.long y :: .long x :: S) := by
  subst hp hv
  exact oW.pure (fun vm0 k0 hS T locs X t k => XT.lmul X.here K.1.1 rfl (hb K.1.2.2.1 hd) rfl k) hr
theorem oW.iand (K : oK p s m meth c Z own by0 ml ret nm) {x y v : Int32} (hd : decode by0 pc = .ok (.iand, 1)) (hv : v = x &&& y) (hp : pc + 1 = pc') (hr : oW p l e R s m args below meth c Z h0 P ds cells slots pc' Ls (.int v :: S)) : oW p l e R s m args below meth c Z h0 P ds cells slots pc Ls (.int y :: .int x :: S) := by
  subst hp hv
  exact oW.pure (fun vm0 k0 hS T locs X t k => XS.iand X.here K.1.1 rfl (hb K.1.2.2.1 hd) rfl k) hr
theorem oW.land (K : oK p s m meth c Z own by0 ml ret nm) {x y v : Int64} (hd : decode by0 pc = .ok (.land, 1)) (hv : v = x &&& y) (hp : pc + 1 = pc') (hr : oW p l e R s m args below meth c Z h0 P ds cells slots pc' Ls (.long v :: S)) : oW p l e R s m args below meth c Z h0 P ds cells slots pc Ls (.long y :: .long x :: S) := by
  subst hp hv
  exact oW.pure (fun vm0 k0 hS T locs X t k => XT.land X.here K.1.1 rfl (hb K.1.2.2.1 hd) rfl k) hr
theorem oW.ior (K : oK p s m meth c Z own by0 ml ret nm) {x y v : Int32} (hd : decode by0 pc = .ok (.ior, 1)) (hv : v = x ||| y) (hp : pc + 1 = pc') (hr : oW p l e R s m args below meth c Z h0 P ds cells slots pc' Ls (.int v :: S)) : oW p l e R s m args below meth c Z h0 P ds cells slots pc Ls (.int y :: .int x :: S) := by
  subst hp hv
  exact oW.pure (fun vm0 k0 hS T locs X t k => XT.ior X.here K.1.1 rfl (hb K.1.2.2.1 hd) rfl k) hr
theorem oW.lor (K : oK p s m meth c Z own by0 ml ret nm) {x y v : Int64} (hd : decode by0 pc = .ok (.lor, 1)) (hv : v = x ||| y) (hp : pc + 1 = pc') (hr : oW p l e R s m args below meth c Z h0 P ds cells slots pc' Ls (.long v :: S)) : oW p l e R s m args below meth c Z h0 P ds cells slots pc Ls (.long y :: .long x :: S) := by
  subst hp hv
  exact oW.pure (fun vm0 k0 hS T locs X t k => XT.lor X.here K.1.1 rfl (hb K.1.2.2.1 hd) rfl k) hr
theorem oW.ixor (K : oK p s m meth c Z own by0 ml ret nm) {x y v : Int32} (hd : decode by0 pc = .ok (.ixor, 1)) (hv : v = x ^^^ y) (hp : pc + 1 = pc') (hr : oW p l e R s m args below meth c Z h0 P ds cells slots pc' Ls (.int v :: S)) : oW p l e R s m args below meth c Z h0 P ds cells slots pc Ls (.int y :: .int x :: S) := by
  subst hp hv
  exact oW.pure (fun vm0 k0 hS T locs X t k => XT.ixor X.here K.1.1 rfl (hb K.1.2.2.1 hd) rfl k) hr
theorem oW.lxor (K : oK p s m meth c Z own by0 ml ret nm) {x y v : Int64} (hd : decode by0 pc = .ok (.lxor, 1)) (hv : v = x ^^^ y) (hp : pc + 1 = pc') (hr : oW p l e R s m args below meth c Z h0 P ds cells slots pc' Ls (.long v :: S)) : oW p l e R s m args below meth c Z h0 P ds cells slots pc Ls (.long y :: .long x :: S) := by
  subst hp hv
  exact oW.pure (fun vm0 k0 hS T locs X t k => XT.lxor X.here K.1.1 rfl (hb K.1.2.2.1 hd) rfl k) hr
theorem oW.idiv (K : oK p s m meth c Z own by0 ml ret nm) {x y v : Int32} (hd : decode by0 pc = .ok (.idiv, 1)) (hy : y ≠ 0) (hv : v = x / y) (hp : pc + 1 = pc') (hr : oW p l e R s m args below meth c Z h0 P ds cells slots pc' Ls (.int v :: S)) : oW p l e R s m args below meth c Z h0 P ds cells slots pc Ls (.int y :: .int x :: S) := by
  subst hp hv
  exact oW.pure (fun vm0 k0 hS T locs X t k => XS.idiv X.here K.1.1 rfl (hb K.1.2.2.1 hd) rfl hy k) hr
theorem oW.irem (K : oK p s m meth c Z own by0 ml ret nm) {x y v : Int32} (hd : decode by0 pc = .ok (.irem, 1)) (hy : y ≠ 0) (hv : v = x % y) (hp : pc + 1 = pc') (hr : oW p l e R s m args below meth c Z h0 P ds cells slots pc' Ls (.int v :: S)) : oW p l e R s m args below meth c Z h0 P ds cells slots pc Ls (.int y :: .int x :: S) := by
  subst hp hv
  exact oW.pure (fun vm0 k0 hS T locs X t k => iremM X K.1.1 rfl (hb K.1.2.2.1 hd) rfl hy k) hr
theorem oW.ineg (K : oK p s m meth c Z own by0 ml ret nm) {x v : Int32} (hd : decode by0 pc = .ok (.ineg, 1)) (hv : v = -x) (hp : pc + 1 = pc') (hr : oW p l e R s m args below meth c Z h0 P ds cells slots pc' Ls (.int v :: S)) : oW p l e R s m args below meth c Z h0 P ds cells slots pc Ls (.int x :: S) := by
  subst hp hv
  exact oW.pure (fun vm0 k0 hS T locs X t k => XS.ineg X.here K.1.1 rfl (hb K.1.2.2.1 hd) rfl k) hr
theorem oW.ishl (K : oK p s m meth c Z own by0 ml ret nm) {x y v : Int32} (hd : decode by0 pc = .ok (.ishl, 1)) (hv : v = x <<< (y &&& 31)) (hp : pc + 1 = pc') (hr : oW p l e R s m args below meth c Z h0 P ds cells slots pc' Ls (.int v :: S)) : oW p l e R s m args below meth c Z h0 P ds cells slots pc Ls (.int y :: .int x :: S) := by
  subst hp hv
  exact oW.pure (fun vm0 k0 hS T locs X t k => XT.ishl X.here K.1.1 rfl (hb K.1.2.2.1 hd) rfl k) hr
theorem oW.ishr (K : oK p s m meth c Z own by0 ml ret nm) {x y v : Int32} (hd : decode by0 pc = .ok (.ishr, 1)) (hv : v = x >>> (y &&& 31)) (hp : pc + 1 = pc') (hr : oW p l e R s m args below meth c Z h0 P ds cells slots pc' Ls (.int v :: S)) : oW p l e R s m args below meth c Z h0 P ds cells slots pc Ls (.int y :: .int x :: S) := by
  subst hp hv
  exact oW.pure (fun vm0 k0 hS T locs X t k => XT.ishr X.here K.1.1 rfl (hb K.1.2.2.1 hd) rfl k) hr
theorem oW.iushr (K : oK p s m meth c Z own by0 ml ret nm) {x y v : Int32} (hd : decode by0 pc = .ok (.iushr, 1)) (hv : v = XT.ushr x y) (hp : pc + 1 = pc') (hr : oW p l e R s m args below meth c Z h0 P ds cells slots pc' Ls (.int v :: S)) : oW p l e R s m args below meth c Z h0 P ds cells slots pc Ls (.int y :: .int x :: S) := by
  subst hp hv
  exact oW.pure (fun vm0 k0 hS T locs X t k => XT.iushr X.here K.1.1 rfl (hb K.1.2.2.1 hd) rfl k) hr
theorem oW.iinc (K : oK p s m meth c Z own by0 ml ret nm) {k : Nat} {cst : Int} {x v : Int32} (hd : decode by0 pc = .ok (.iinc k cst, 3)) (hl : Ls[k]? = some (.val (.int x))) (hv : v = x + Int32.ofInt cst) (hs : storeLocals Ls k (.int v) = some Ls') (hp : pc + 3 = pc') (hr : oW p l e R s m args below meth c Z h0 P ds cells slots pc' Ls' (S)) : oW p l e R s m args below meth c Z h0 P ds cells slots pc Ls (S) := by
  subst hp hv
  exact oW.pure (fun vm0 k0 hS T locs X t k => XS.iinc X.here K.1.1 rfl (hb K.1.2.2.1 hd) hl hs k) hr
theorem oW.i2l (K : oK p s m meth c Z own by0 ml ret nm) {x : Int32} {v : Int64} (hd : decode by0 pc = .ok (.i2l, 1)) (hv : v = x.toInt64) (hp : pc + 1 = pc') (hr : oW p l e R s m args below meth c Z h0 P ds cells slots pc' Ls (.long v :: S)) : oW p l e R s m args below meth c Z h0 P ds cells slots pc Ls (.int x :: S) := by
  subst hp hv
  exact oW.pure (fun vm0 k0 hS T locs X t k => XT.i2l X.here K.1.1 rfl (hb K.1.2.2.1 hd) rfl k) hr
theorem oW.l2i (K : oK p s m meth c Z own by0 ml ret nm) {x : Int64} {v : Int32} (hd : decode by0 pc = .ok (.l2i, 1)) (hv : v = x.toInt32) (hp : pc + 1 = pc') (hr : oW p l e R s m args below meth c Z h0 P ds cells slots pc' Ls (.int v :: S)) : oW p l e R s m args below meth c Z h0 P ds cells slots pc Ls (.long x :: S) := by
  subst hp hv
  exact oW.pure (fun vm0 k0 hS T locs X t k => XT.l2i X.here K.1.1 rfl (hb K.1.2.2.1 hd) rfl k) hr
theorem oW.i2s (K : oK p s m meth c Z own by0 ml ret nm) {x v : Int32} (hd : decode by0 pc = .ok (.i2s, 1)) (hv : v = x.toInt16.toInt32) (hp : pc + 1 = pc') (hr : oW p l e R s m args below meth c Z h0 P ds cells slots pc' Ls (.int v :: S)) : oW p l e R s m args below meth c Z h0 P ds cells slots pc Ls (.int x :: S) := by
  subst hp hv
  exact oW.pure (fun vm0 k0 hS T locs X t k => XT.i2s X.here K.1.1 rfl (hb K.1.2.2.1 hd) rfl k) hr
theorem oW.lshl (K : oK p s m meth c Z own by0 ml ret nm) {x v : Int64} {y : Int32} (hd : decode by0 pc = .ok (.lshl, 1)) (hv : v = x <<< (y.toInt64 &&& 63)) (hp : pc + 1 = pc') (hr : oW p l e R s m args below meth c Z h0 P ds cells slots pc' Ls (.long v :: S)) : oW p l e R s m args below meth c Z h0 P ds cells slots pc Ls (.int y :: .long x :: S) := by
  subst hp hv
  exact oW.pure (fun vm0 k0 hS T locs X t k => XT.lshl X.here K.1.1 rfl (hb K.1.2.2.1 hd) rfl k) hr
theorem oW.lshr (K : oK p s m meth c Z own by0 ml ret nm) {x v : Int64} {y : Int32} (hd : decode by0 pc = .ok (.lshr, 1)) (hv : v = x >>> (y.toInt64 &&& 63)) (hp : pc + 1 = pc') (hr : oW p l e R s m args below meth c Z h0 P ds cells slots pc' Ls (.long v :: S)) : oW p l e R s m args below meth c Z h0 P ds cells slots pc Ls (.int y :: .long x :: S) := by
  subst hp hv
  exact oW.pure (fun vm0 k0 hS T locs X t k => XT.lshr X.here K.1.1 rfl (hb K.1.2.2.1 hd) rfl k) hr
theorem oW.lushr (K : oK p s m meth c Z own by0 ml ret nm) {x v : Int64} {y : Int32} (hd : decode by0 pc = .ok (.lushr, 1)) (hv : v = XT.ushrL x y) (hp : pc + 1 = pc') (hr : oW p l e R s m args below meth c Z h0 P ds cells slots pc' Ls (.long v :: S)) : oW p l e R s m args below meth c Z h0 P ds cells slots pc Ls (.int y :: .long x :: S) := by
  subst hp hv
  exact oW.pure (fun vm0 k0 hS T locs X t k => XT.lushr X.here K.1.1 rfl (hb K.1.2.2.1 hd) rfl k) hr
theorem oW.lcmp (K : oK p s m meth c Z own by0 ml ret nm) {x y : Int64} {v : Int32} (hd : decode by0 pc = .ok (.lcmp, 1)) (hv : v = XT.cmpL x y) (hp : pc + 1 = pc') (hr : oW p l e R s m args below meth c Z h0 P ds cells slots pc' Ls (.int v :: S)) : oW p l e R s m args below meth c Z h0 P ds cells slots pc Ls (.long y :: .long x :: S) := by
  subst hp hv
  exact oW.pure (fun vm0 k0 hS T locs X t k => XT.lcmp X.here K.1.1 rfl (hb K.1.2.2.1 hd) rfl k) hr
theorem oW.i2d (K : oK p s m meth c Z own by0 ml ret nm) {x : Int32} {v : UInt64} (hd : decode by0 pc = .ok (.i2d, 1)) (hv : v = FP.i2d x) (hp : pc + 1 = pc') (hr : oW p l e R s m args below meth c Z h0 P ds cells slots pc' Ls (.double v :: S)) : oW p l e R s m args below meth c Z h0 P ds cells slots pc Ls (.int x :: S) := by
  subst hp hv
  exact oW.pure (fun vm0 k0 hS T locs X t k => XS.i2dS X.here K.1.1 rfl (hb K.1.2.2.1 hd) rfl rfl k) hr
theorem oW.l2d (K : oK p s m meth c Z own by0 ml ret nm) {x : Int64} {v : UInt64} (hd : decode by0 pc = .ok (.l2d, 1)) (hv : v = FP.l2d x) (hp : pc + 1 = pc') (hr : oW p l e R s m args below meth c Z h0 P ds cells slots pc' Ls (.double v :: S)) : oW p l e R s m args below meth c Z h0 P ds cells slots pc Ls (.long x :: S) := by
  subst hp hv
  exact oW.pure (fun vm0 k0 hS T locs X t k => XS.l2dS X.here K.1.1 rfl (hb K.1.2.2.1 hd) rfl rfl k) hr
theorem oW.dcmp (K : oK p s m meth c Z own by0 ml ret nm) {o : CmpOp} {x y : UInt64} {v : Int32} (hd : decode by0 pc = .ok (.dcmp o, 1)) (hv : v = cmpValue (FP.dcmp x y) o) (hp : pc + 1 = pc') (hr : oW p l e R s m args below meth c Z h0 P ds cells slots pc' Ls (.int v :: S)) : oW p l e R s m args below meth c Z h0 P ds cells slots pc Ls (.double y :: .double x :: S) := by
  subst hp hv
  exact oW.pure (fun vm0 k0 hS T locs X t k => XS.dcmpS X.here K.1.1 rfl (hb K.1.2.2.1 hd) rfl rfl k) hr
theorem oW.dadd (K : oK p s m meth c Z own by0 ml ret nm) {x y v : UInt64} (hd : decode by0 pc = .ok (.dadd, 1)) (hv : v = FP.dadd x y) (hn : Jvm.Free.Fl.NoNaN64 v) (hp : pc + 1 = pc') (hr : oW p l e R s m args below meth c Z h0 P ds cells slots pc' Ls (.double v :: S)) : oW p l e R s m args below meth c Z h0 P ds cells slots pc Ls (.double y :: .double x :: S) := by
  subst hp hv
  exact oW.pure (fun vm0 k0 hS T locs X t k => XS.daddS X.here K.1.1 rfl (hb K.1.2.2.1 hd) rfl hn rfl k) hr
theorem oW.dsub (K : oK p s m meth c Z own by0 ml ret nm) {x y v : UInt64} (hd : decode by0 pc = .ok (.dsub, 1)) (hv : v = FP.dsub x y) (hn : Jvm.Free.Fl.NoNaN64 v) (hp : pc + 1 = pc') (hr : oW p l e R s m args below meth c Z h0 P ds cells slots pc' Ls (.double v :: S)) : oW p l e R s m args below meth c Z h0 P ds cells slots pc Ls (.double y :: .double x :: S) := by
  subst hp hv
  exact oW.pure (fun vm0 k0 hS T locs X t k => XS.dsubS X.here K.1.1 rfl (hb K.1.2.2.1 hd) rfl hn rfl k) hr
theorem oW.dmul (K : oK p s m meth c Z own by0 ml ret nm) {x y v : UInt64} (hd : decode by0 pc = .ok (.dmul, 1)) (hv : v = FP.dmul x y) (hn : Jvm.Free.Fl.NoNaN64 v) (hp : pc + 1 = pc') (hr : oW p l e R s m args below meth c Z h0 P ds cells slots pc' Ls (.double v :: S)) : oW p l e R s m args below meth c Z h0 P ds cells slots pc Ls (.double y :: .double x :: S) := by
  subst hp hv
  exact oW.pure (fun vm0 k0 hS T locs X t k => XS.dmulS X.here K.1.1 rfl (hb K.1.2.2.1 hd) rfl hn rfl k) hr
theorem oW.ddiv (K : oK p s m meth c Z own by0 ml ret nm) {x y v : UInt64} (hd : decode by0 pc = .ok (.ddiv, 1)) (hv : v = FP.ddiv x y) (hn : Jvm.Free.Fl.NoNaN64 v) (hp : pc + 1 = pc') (hr : oW p l e R s m args below meth c Z h0 P ds cells slots pc' Ls (.double v :: S)) : oW p l e R s m args below meth c Z h0 P ds cells slots pc Ls (.double y :: .double x :: S) := by
  subst hp hv
  exact oW.pure (fun vm0 k0 hS T locs X t k => XS.ddivS X.here K.1.1 rfl (hb K.1.2.2.1 hd) rfl hn rfl k) hr
theorem oW.dup (K : oK p s m meth c Z own by0 ml ret nm) {x : Value} (hd : decode by0 pc = .ok (.dup, 1)) (hc : x.category = 1) (hp : pc + 1 = pc') (hr : oW p l e R s m args below meth c Z h0 P ds cells slots pc' Ls (x :: x :: S)) : oW p l e R s m args below meth c Z h0 P ds cells slots pc Ls (x :: S) := by
  subst hp
  exact oW.pure (fun vm0 k0 hS T locs X t k => XS.dup X.here K.1.1 rfl (hb K.1.2.2.1 hd) rfl hc k) hr
theorem oW.pop (K : oK p s m meth c Z own by0 ml ret nm) {x : Value} (hd : decode by0 pc = .ok (.pop, 1)) (hc : x.category = 1) (hp : pc + 1 = pc') (hr : oW p l e R s m args below meth c Z h0 P ds cells slots pc' Ls (S)) : oW p l e R s m args below meth c Z h0 P ds cells slots pc Ls (x :: S) := by
  subst hp
  exact oW.pure (fun vm0 k0 hS T locs X t k => XT.pop X.here K.1.1 rfl (hb K.1.2.2.1 hd) rfl hc k) hr
theorem oW.dup2 (K : oK p s m meth c Z own by0 ml ret nm) {x y : Value} (hd : decode by0 pc = .ok (.dup2, 1)) (hc : x.category = 1) (hc' : y.category = 1) (hp : pc + 1 = pc') (hr : oW p l e R s m args below meth c Z h0 P ds cells slots pc' Ls (x :: y :: x :: y :: S)) : oW p l e R s m args below meth c Z h0 P ds cells slots pc Ls (x :: y :: S) := by
  subst hp
  exact oW.pure (fun vm0 k0 hS T locs X t k => XT.dup2 X.here K.1.1 rfl (hb K.1.2.2.1 hd) rfl hc hc' k) hr
theorem oW.dupX1 (K : oK p s m meth c Z own by0 ml ret nm) {x y : Value} (hd : decode by0 pc = .ok (.dup_x1, 1)) (hc : x.category = 1) (hc' : y.category = 1) (hp : pc + 1 = pc') (hr : oW p l e R s m args below meth c Z h0 P ds cells slots pc' Ls (x :: y :: x :: S)) : oW p l e R s m args below meth c Z h0 P ds cells slots pc Ls (x :: y :: S) := by
  subst hp
  exact oW.pure (fun vm0 k0 hS T locs X t k => XT.dupX1 X.here K.1.1 rfl (hb K.1.2.2.1 hd) rfl hc hc' k) hr
theorem oW.goto (K : oK p s m meth c Z own by0 ml ret nm) {o : Int} (hd : decode by0 pc = .ok (.goto o, 3)) (ho : 0 ≤ (pc : Int) + o) (hp : ((pc : Int) + o).toNat = pc') (hr : oW p l e R s m args below meth c Z h0 P ds cells slots pc' Ls S) : oW p l e R s m args below meth c Z h0 P ds cells slots pc Ls S :=
  oW.pure (fun vm0 k0 hS T locs X t k => XS.goto X.here K.1.1 rfl rfl (hb K.1.2.2.1 hd) ho hp k) hr
theorem oW.ifc (K : oK p s m meth c Z own by0 ml ret nm) {cd : ClassFile.Cond} {o : Int} {x : Int32} {pc3 : Nat} (hd : decode by0 pc = .ok (.ifCond cd o, 3)) (ho : 0 ≤ (pc : Int) + o) (hp : ((pc : Int) + o).toNat = pc') (h3 : pc + 3 = pc3) (hy : if_icmp.holds cd x 0 = true → oW p l e R s m args below meth c Z h0 P ds cells slots pc' Ls S) (hn : if_icmp.holds cd x 0 = false → oW p l e R s m args below meth c Z h0 P ds cells slots pc3 Ls S) : oW p l e R s m args below meth c Z h0 P ds cells slots pc Ls (.int x :: S) := by
  subst h3
  cases q : if_icmp.holds cd x 0
  · exact oW.pure (fun vm0 k0 hS T locs X t k => XS.ifNo X.here K.1.1 rfl (hb K.1.2.2.1 hd) rfl ((if0 _ _).trans q) k) (hn q)
  · exact oW.pure (fun vm0 k0 hS T locs X t k => XS.ifYes X.here K.1.1 rfl rfl (hb K.1.2.2.1 hd) rfl ((if0 _ _).trans q) ho hp k) (hy q)
theorem oW.icc (K : oK p s m meth c Z own by0 ml ret nm) {cd : ClassFile.Cond} {o : Int} {x y : Int32} {pc3 : Nat} (hd : decode by0 pc = .ok (.if_icmp cd o, 3)) (ho : 0 ≤ (pc : Int) + o) (hp : ((pc : Int) + o).toNat = pc') (h3 : pc + 3 = pc3) (hy : if_icmp.holds cd x y = true → oW p l e R s m args below meth c Z h0 P ds cells slots pc' Ls S) (hn : if_icmp.holds cd x y = false → oW p l e R s m args below meth c Z h0 P ds cells slots pc3 Ls S) : oW p l e R s m args below meth c Z h0 P ds cells slots pc Ls (.int y :: .int x :: S) := by
  subst h3
  cases q : if_icmp.holds cd x y
  · exact oW.pure (fun vm0 k0 hS T locs X t k => XS.icmpNo X.here K.1.1 rfl (hb K.1.2.2.1 hd) rfl q k) (hn q)
  · exact oW.pure (fun vm0 k0 hS T locs X t k => XS.icmpYes X.here K.1.1 rfl rfl (hb K.1.2.2.1 hd) rfl q ho hp k) (hy q)
theorem oH_lt {x y : Int32} : (if_icmp.holds .lt x y = true → x < y) ∧ (if_icmp.holds .lt x y = false → ¬ x < y) := ⟨fun q => Decidable.byContradiction (fun r => absurd q (by rw [(flt r).1]; decide)), fun q r => absurd q (by rw [(tlt r).1]; decide)⟩
theorem oH_ge {x y : Int32} : (if_icmp.holds .ge x y = true → ¬ x < y) ∧ (if_icmp.holds .ge x y = false → x < y) := ⟨fun q r => absurd q (by rw [(tlt r).2.1]; decide), fun q => Decidable.byContradiction (fun r => absurd q (by rw [(flt r).2.1]; decide))⟩
theorem oH_gt {x y : Int32} : (if_icmp.holds .gt x y = true → y < x) ∧ (if_icmp.holds .gt x y = false → ¬ y < x) := ⟨fun q => Decidable.byContradiction (fun r => absurd q (by rw [(flt r).2.2.1]; decide)), fun q r => absurd q (by rw [(tlt r).2.2.1]; decide)⟩
theorem oH_le {x y : Int32} : (if_icmp.holds .le x y = true → ¬ y < x) ∧ (if_icmp.holds .le x y = false → y < x) := ⟨fun q r => absurd q (by rw [(tlt r).2.2.2]; decide), fun q => Decidable.byContradiction (fun r => absurd q (by rw [(flt r).2.2.2]; decide))⟩
theorem oH_eq {x y : Int32} : (if_icmp.holds .eq x y = true → x = y) ∧ (if_icmp.holds .eq x y = false → ¬ x = y) := ⟨fun q => Decidable.byContradiction (fun r => absurd q (by rw [(feq r).1]; decide)), fun q r => absurd q (by rw [(teq r).1]; decide)⟩
theorem oH_ne {x y : Int32} : (if_icmp.holds .ne x y = true → ¬ x = y) ∧ (if_icmp.holds .ne x y = false → x = y) := ⟨fun q r => absurd q (by rw [(teq r).2]; decide), fun q => Decidable.byContradiction (fun r => absurd q (by rw [(feq r).2]; decide))⟩
theorem oW.if_lt (K : oK p s m meth c Z own by0 ml ret nm) {o : Int} {x : Int32} {pc3 : Nat} (hd : decode by0 pc = .ok (.ifCond .lt o, 3)) (ho : 0 ≤ (pc : Int) + o) (hp : ((pc : Int) + o).toNat = pc') (h3 : pc + 3 = pc3) (hy : x < 0 → oW p l e R s m args below meth c Z h0 P ds cells slots pc' Ls S) (hn : ¬ x < 0 → oW p l e R s m args below meth c Z h0 P ds cells slots pc3 Ls S) : oW p l e R s m args below meth c Z h0 P ds cells slots pc Ls (.int x :: S) :=
  oW.ifc K hd ho hp h3 (fun q => hy (oH_lt.1 q)) (fun q => hn (oH_lt.2 q))
theorem oW.icmp_lt (K : oK p s m meth c Z own by0 ml ret nm) {o : Int} {x y : Int32} {pc3 : Nat} (hd : decode by0 pc = .ok (.if_icmp .lt o, 3)) (ho : 0 ≤ (pc : Int) + o) (hp : ((pc : Int) + o).toNat = pc') (h3 : pc + 3 = pc3) (hy : x < y → oW p l e R s m args below meth c Z h0 P ds cells slots pc' Ls S) (hn : ¬ x < y → oW p l e R s m args below meth c Z h0 P ds cells slots pc3 Ls S) : oW p l e R s m args below meth c Z h0 P ds cells slots pc Ls (.int y :: .int x :: S) :=
  oW.icc K hd ho hp h3 (fun q => hy (oH_lt.1 q)) (fun q => hn (oH_lt.2 q))
theorem oW.if_ge (K : oK p s m meth c Z own by0 ml ret nm) {o : Int} {x : Int32} {pc3 : Nat} (hd : decode by0 pc = .ok (.ifCond .ge o, 3)) (ho : 0 ≤ (pc : Int) + o) (hp : ((pc : Int) + o).toNat = pc') (h3 : pc + 3 = pc3) (hy : ¬ x < 0 → oW p l e R s m args below meth c Z h0 P ds cells slots pc' Ls S) (hn : x < 0 → oW p l e R s m args below meth c Z h0 P ds cells slots pc3 Ls S) : oW p l e R s m args below meth c Z h0 P ds cells slots pc Ls (.int x :: S) :=
  oW.ifc K hd ho hp h3 (fun q => hy (oH_ge.1 q)) (fun q => hn (oH_ge.2 q))
theorem oW.icmp_ge (K : oK p s m meth c Z own by0 ml ret nm) {o : Int} {x y : Int32} {pc3 : Nat} (hd : decode by0 pc = .ok (.if_icmp .ge o, 3)) (ho : 0 ≤ (pc : Int) + o) (hp : ((pc : Int) + o).toNat = pc') (h3 : pc + 3 = pc3) (hy : ¬ x < y → oW p l e R s m args below meth c Z h0 P ds cells slots pc' Ls S) (hn : x < y → oW p l e R s m args below meth c Z h0 P ds cells slots pc3 Ls S) : oW p l e R s m args below meth c Z h0 P ds cells slots pc Ls (.int y :: .int x :: S) :=
  oW.icc K hd ho hp h3 (fun q => hy (oH_ge.1 q)) (fun q => hn (oH_ge.2 q))
theorem oW.if_gt (K : oK p s m meth c Z own by0 ml ret nm) {o : Int} {x : Int32} {pc3 : Nat} (hd : decode by0 pc = .ok (.ifCond .gt o, 3)) (ho : 0 ≤ (pc : Int) + o) (hp : ((pc : Int) + o).toNat = pc') (h3 : pc + 3 = pc3) (hy : 0 < x → oW p l e R s m args below meth c Z h0 P ds cells slots pc' Ls S) (hn : ¬ 0 < x → oW p l e R s m args below meth c Z h0 P ds cells slots pc3 Ls S) : oW p l e R s m args below meth c Z h0 P ds cells slots pc Ls (.int x :: S) :=
  oW.ifc K hd ho hp h3 (fun q => hy (oH_gt.1 q)) (fun q => hn (oH_gt.2 q))
theorem oW.icmp_gt (K : oK p s m meth c Z own by0 ml ret nm) {o : Int} {x y : Int32} {pc3 : Nat} (hd : decode by0 pc = .ok (.if_icmp .gt o, 3)) (ho : 0 ≤ (pc : Int) + o) (hp : ((pc : Int) + o).toNat = pc') (h3 : pc + 3 = pc3) (hy : y < x → oW p l e R s m args below meth c Z h0 P ds cells slots pc' Ls S) (hn : ¬ y < x → oW p l e R s m args below meth c Z h0 P ds cells slots pc3 Ls S) : oW p l e R s m args below meth c Z h0 P ds cells slots pc Ls (.int y :: .int x :: S) :=
  oW.icc K hd ho hp h3 (fun q => hy (oH_gt.1 q)) (fun q => hn (oH_gt.2 q))
theorem oW.if_le (K : oK p s m meth c Z own by0 ml ret nm) {o : Int} {x : Int32} {pc3 : Nat} (hd : decode by0 pc = .ok (.ifCond .le o, 3)) (ho : 0 ≤ (pc : Int) + o) (hp : ((pc : Int) + o).toNat = pc') (h3 : pc + 3 = pc3) (hy : ¬ 0 < x → oW p l e R s m args below meth c Z h0 P ds cells slots pc' Ls S) (hn : 0 < x → oW p l e R s m args below meth c Z h0 P ds cells slots pc3 Ls S) : oW p l e R s m args below meth c Z h0 P ds cells slots pc Ls (.int x :: S) :=
  oW.ifc K hd ho hp h3 (fun q => hy (oH_le.1 q)) (fun q => hn (oH_le.2 q))
theorem oW.icmp_le (K : oK p s m meth c Z own by0 ml ret nm) {o : Int} {x y : Int32} {pc3 : Nat} (hd : decode by0 pc = .ok (.if_icmp .le o, 3)) (ho : 0 ≤ (pc : Int) + o) (hp : ((pc : Int) + o).toNat = pc') (h3 : pc + 3 = pc3) (hy : ¬ y < x → oW p l e R s m args below meth c Z h0 P ds cells slots pc' Ls S) (hn : y < x → oW p l e R s m args below meth c Z h0 P ds cells slots pc3 Ls S) : oW p l e R s m args below meth c Z h0 P ds cells slots pc Ls (.int y :: .int x :: S) :=
  oW.icc K hd ho hp h3 (fun q => hy (oH_le.1 q)) (fun q => hn (oH_le.2 q))
theorem oW.if_eq (K : oK p s m meth c Z own by0 ml ret nm) {o : Int} {x : Int32} {pc3 : Nat} (hd : decode by0 pc = .ok (.ifCond .eq o, 3)) (ho : 0 ≤ (pc : Int) + o) (hp : ((pc : Int) + o).toNat = pc') (h3 : pc + 3 = pc3) (hy : x = 0 → oW p l e R s m args below meth c Z h0 P ds cells slots pc' Ls S) (hn : ¬ x = 0 → oW p l e R s m args below meth c Z h0 P ds cells slots pc3 Ls S) : oW p l e R s m args below meth c Z h0 P ds cells slots pc Ls (.int x :: S) :=
  oW.ifc K hd ho hp h3 (fun q => hy (oH_eq.1 q)) (fun q => hn (oH_eq.2 q))
theorem oW.icmp_eq (K : oK p s m meth c Z own by0 ml ret nm) {o : Int} {x y : Int32} {pc3 : Nat} (hd : decode by0 pc = .ok (.if_icmp .eq o, 3)) (ho : 0 ≤ (pc : Int) + o) (hp : ((pc : Int) + o).toNat = pc') (h3 : pc + 3 = pc3) (hy : x = y → oW p l e R s m args below meth c Z h0 P ds cells slots pc' Ls S) (hn : ¬ x = y → oW p l e R s m args below meth c Z h0 P ds cells slots pc3 Ls S) : oW p l e R s m args below meth c Z h0 P ds cells slots pc Ls (.int y :: .int x :: S) :=
  oW.icc K hd ho hp h3 (fun q => hy (oH_eq.1 q)) (fun q => hn (oH_eq.2 q))
theorem oW.if_ne (K : oK p s m meth c Z own by0 ml ret nm) {o : Int} {x : Int32} {pc3 : Nat} (hd : decode by0 pc = .ok (.ifCond .ne o, 3)) (ho : 0 ≤ (pc : Int) + o) (hp : ((pc : Int) + o).toNat = pc') (h3 : pc + 3 = pc3) (hy : ¬ x = 0 → oW p l e R s m args below meth c Z h0 P ds cells slots pc' Ls S) (hn : x = 0 → oW p l e R s m args below meth c Z h0 P ds cells slots pc3 Ls S) : oW p l e R s m args below meth c Z h0 P ds cells slots pc Ls (.int x :: S) :=
  oW.ifc K hd ho hp h3 (fun q => hy (oH_ne.1 q)) (fun q => hn (oH_ne.2 q))
theorem oW.icmp_ne (K : oK p s m meth c Z own by0 ml ret nm) {o : Int} {x y : Int32} {pc3 : Nat} (hd : decode by0 pc = .ok (.if_icmp .ne o, 3)) (ho : 0 ≤ (pc : Int) + o) (hp : ((pc : Int) + o).toNat = pc') (h3 : pc + 3 = pc3) (hy : ¬ x = y → oW p l e R s m args below meth c Z h0 P ds cells slots pc' Ls S) (hn : x = y → oW p l e R s m args below meth c Z h0 P ds cells slots pc3 Ls S) : oW p l e R s m args below meth c Z h0 P ds cells slots pc Ls (.int y :: .int x :: S) :=
  oW.icc K hd ho hp h3 (fun q => hy (oH_ne.1 q)) (fun q => hn (oH_ne.2 q))
theorem oW.ifnullNo (K : oK p s m meth c Z own by0 ml ret nm) {o : Int} {b : Addr} (hd : decode by0 pc = .ok (.ifnull o, 3)) (hp : pc + 3 = pc') (hr : oW p l e R s m args below meth c Z h0 P ds cells slots pc' Ls S) : oW p l e R s m args below meth c Z h0 P ds cells slots pc Ls (.ref b :: S) := by
  subst hp
  exact oW.pure (fun vm0 k0 hS T locs X t k => XS.ifnullNo X.here K.1.1 rfl (hb K.1.2.2.1 hd) rfl k) hr
theorem oW.ifnullYes (K : oK p s m meth c Z own by0 ml ret nm) {o : Int} (hd : decode by0 pc = .ok (.ifnull o, 3)) (ho : 0 ≤ (pc : Int) + o) (hp : ((pc : Int) + o).toNat = pc') (hr : oW p l e R s m args below meth c Z h0 P ds cells slots pc' Ls S) : oW p l e R s m args below meth c Z h0 P ds cells slots pc Ls (.null :: S) :=
  oW.pure (fun vm0 k0 hS T locs X t k => XS.ifnullYes X.here K.1.1 rfl rfl (hb K.1.2.2.1 hd) rfl ho hp k) hr
theorem oW.ifnonnullYes (K : oK p s m meth c Z own by0 ml ret nm) {o : Int} {b : Addr} (hd : decode by0 pc = .ok (.ifnonnull o, 3)) (ho : 0 ≤ (pc : Int) + o) (hp : ((pc : Int) + o).toNat = pc') (hr : oW p l e R s m args below meth c Z h0 P ds cells slots pc' Ls S) : oW p l e R s m args below meth c Z h0 P ds cells slots pc Ls (.ref b :: S) :=
  oW.pure (fun vm0 k0 hS T locs X t k => XT.ifnonnullYes X.here K.1.1 rfl rfl (hb K.1.2.2.1 hd) rfl ho hp k) hr
theorem oW.ldcI (K : oK p s m meth c Z own by0 ml ret nm) {index : Nat} {v : Int32} (w : (Jvm.Cond.constant own index v).before a0 Z = true) (hd : decode by0 pc = .ok (.ldc index, 2)) (hp : pc + 2 = pc') (hr : oW p l e R s m args below meth c Z h0 P ds cells slots pc' Ls (.int v :: S)) : oW p l e R s m args below meth c Z h0 P ds cells slots pc Ls S := by
  subst hp
  exact oW.pure (fun vm0 k0 hS T locs X t k => X.ldcInt K.1.1 (K.since hS).2.1 (mv (K.since hS).1.2.1 w) (g := mkF m pc Ls S) rfl (hb K.1.2.2.1 hd) t k) hr
theorem oW.ldc2D (K : oK p s m meth c Z own by0 ml ret nm) {index : Nat} {v : UInt64} (w : (Jvm.Cond.constantDouble own index v).before a0 Z = true) (hd : decode by0 pc = .ok (.ldc2_w index, 3)) (hp : pc + 3 = pc') (hr : oW p l e R s m args below meth c Z h0 P ds cells slots pc' Ls (.double v :: S)) : oW p l e R s m args below meth c Z h0 P ds cells slots pc Ls S := by
  subst hp
  exact oW.pure (fun vm0 k0 hS T locs X t k => X.ldc2DoubleC K.1.1 (K.since hS).2.1 (mv (K.since hS).1.2.1 w) (g := mkF m pc Ls S) rfl (hb K.1.2.2.1 hd) t k) hr
theorem oW.ldc2L (K : oK p s m meth c Z own by0 ml ret nm) {index : Nat} {v : Int64} (w : (Jvm.Cond.constantLong own index v).before a0 Z = true) (hd : decode by0 pc = .ok (.ldc2_w index, 3)) (hp : pc + 3 = pc') (hr : oW p l e R s m args below meth c Z h0 P ds cells slots pc' Ls (.long v :: S)) : oW p l e R s m args below meth c Z h0 P ds cells slots pc Ls S := by
  subst hp
  exact oW.pure (fun vm0 k0 hS T locs X t k => X.ldc2Long K.1.1 (K.since hS).2.1 (mv (K.since hS).1.2.1 w) (g := mkF m pc Ls S) rfl (hb K.1.2.2.1 hd) t k) hr
theorem oLen {vs : List Value} {j : Int32} {k : Nat} {v : Value} {c : Cell} (hj : j = Int32.ofNat k) (hk : k < 2 ^ 31) (hv : vs[k]? = some v) (hs : c.slots = vs.toArray) : ¬ (j < 0 ∨ c.slots.size ≤ j.toNatClampNeg) ∧ c.slots[j.toNatClampNeg]? = some v := by
  subst hj
  have e : (Int32.ofNat k).toNatClampNeg = k := Int32.toNatClampNeg_ofNat_of_lt hk
  have l := (List.getElem?_eq_some_iff.mp hv).1
  rw [e, hs]
  refine ⟨fun q => q.elim (Int32.ofNat_not_neg hk) (fun r => by simp at r; omega), by simpa using hv⟩
theorem oW.iaload (K : oK p s m meth c Z own by0 ml ret nm) {i k : Nat} {a : Addr} {vs : List Value} {j : Int32} {v : Value} (hd : decode by0 pc = .ok (.iaload, 1)) (hi : ds[i]? = some (a, .inl (.int, vs))) (hj : j = Int32.ofNat k) (hk : k < 2 ^ 31) (hv : vs[k]? = some v) (hp : pc + 1 = pc') (hr : oW p l e R s m args below meth c Z h0 P ds cells slots pc' Ls (v :: S)) : oW p l e R s m args below meth c Z h0 P ds cells slots pc Ls (.int j :: .ref a :: S) := by
  subst hp
  rintro T ⟨vm0, k0, locs, X, hS, hK0, N, M⟩
  replace K := K.since hS
  obtain ⟨cl, A, hs⟩ := (M.2.2 i _ hi).2
  obtain ⟨q1, q2⟩ := oLen hj hk hv hs
  exact oW.ends (fun t k => X.iaload K.1.1 A.1 (State.isArrayOf_alike K.1.2.1.alike A.2.1) A.2.2 q1 q2 (g := mkF m pc Ls (.int j :: .ref a :: S)) rfl rfl (hb K.1.2.2.1 hd) t k) (hr T ⟨vm0, k0, locs, X, hS, hK0, N, M⟩)
theorem oW.daload (K : oK p s m meth c Z own by0 ml ret nm) {i k : Nat} {a : Addr} {vs : List Value} {j : Int32} {v : Value} (hd : decode by0 pc = .ok (.daload, 1)) (hi : ds[i]? = some (a, .inl (.double, vs))) (hj : j = Int32.ofNat k) (hk : k < 2 ^ 31) (hv : vs[k]? = some v) (hp : pc + 1 = pc') (hr : oW p l e R s m args below meth c Z h0 P ds cells slots pc' Ls (v :: S)) : oW p l e R s m args below meth c Z h0 P ds cells slots pc Ls (.int j :: .ref a :: S) := by
  subst hp
  rintro T ⟨vm0, k0, locs, X, hS, hK0, N, M⟩
  replace K := K.since hS
  obtain ⟨cl, A, hs⟩ := (M.2.2 i _ hi).2
  obtain ⟨q1, q2⟩ := oLen hj hk hv hs
  exact oW.ends (fun t k => X.daload K.1.1 A.1 (State.isArrayOf_alike K.1.2.1.alike A.2.1) A.2.2 q1 q2 (g := mkF m pc Ls (.int j :: .ref a :: S)) rfl rfl (hb K.1.2.2.1 hd) t k) (hr T ⟨vm0, k0, locs, X, hS, hK0, N, M⟩)
theorem oW.laload (K : oK p s m meth c Z own by0 ml ret nm) {i k : Nat} {a : Addr} {vs : List Value} {j : Int32} {v : Value} (hd : decode by0 pc = .ok (.laload, 1)) (hi : ds[i]? = some (a, .inl (.long, vs))) (hj : j = Int32.ofNat k) (hk : k < 2 ^ 31) (hv : vs[k]? = some v) (hp : pc + 1 = pc') (hr : oW p l e R s m args below meth c Z h0 P ds cells slots pc' Ls (v :: S)) : oW p l e R s m args below meth c Z h0 P ds cells slots pc Ls (.int j :: .ref a :: S) := by
  subst hp
  rintro T ⟨vm0, k0, locs, X, hS, hK0, N, M⟩
  replace K := K.since hS
  obtain ⟨cl, A, hs⟩ := (M.2.2 i _ hi).2
  obtain ⟨q1, q2⟩ := oLen hj hk hv hs
  exact oW.ends (fun t k => X.laload K.1.1 A.1 (State.isArrayOf_alike K.1.2.1.alike A.2.1) A.2.2 q1 q2 (g := mkF m pc Ls (.int j :: .ref a :: S)) rfl rfl (hb K.1.2.2.1 hd) t k) (hr T ⟨vm0, k0, locs, X, hS, hK0, N, M⟩)
theorem oW.iastore (K : oK p s m meth c Z own by0 ml ret nm) {i k : Nat} {a : Addr} {vs : List Value} {j : Int32} {x : Int32} (hd : decode by0 pc = .ok (.iastore, 1)) (hi : ds[i]? = some (a, .inl (.int, vs))) (hj : j = Int32.ofNat k) (hk : k < 2 ^ 31) (hl : k < vs.length) (hds : ds.set i (a, .inl (.int, vs.set k (.int x))) = ds') (hp : pc + 1 = pc') (hr : oW p l e R s m args below meth c Z h0 P ds' cells slots pc' Ls S) : oW p l e R s m args below meth c Z h0 P ds cells slots pc Ls (.int x :: .int j :: .ref a :: S) := by
  subst hp hds
  rintro T ⟨vm0, k0, locs, X, hS, hK0, N, M⟩
  replace K := K.since hS
  obtain ⟨ha, cl, A, hs⟩ := M.2.2 i _ hi
  obtain ⟨q1, q2⟩ := oLen hj hk (List.getElem?_eq_getElem hl) hs
  obtain ⟨T', h', X', e', Wr', st⟩ := stI X K.1.1 K.1.2.1 rfl A (x := x) q1 (g := mkF m pc Ls (.int x :: .int j :: .ref a :: S)) rfl rfl (hb K.1.2.2.1 hd)
  have ek : j.toNatClampNeg = k := by subst hj; exact Int32.toNatClampNeg_ofNat_of_lt hk
  refine oW.ends st (hr T' ⟨vm0, k0, _, X', hS, by rw [e', Wr'.size]; exact hK0, Fr.snoc X' N ha, ?_⟩)
  rw [e']
  refine M.put hi Wr' ⟨_, A.same Wr', ?_⟩
  rw [ek]; simp [Cell.setSlot, hs]
theorem oW.dastore (K : oK p s m meth c Z own by0 ml ret nm) {i k : Nat} {a : Addr} {vs : List Value} {j : Int32} {x : UInt64} (hd : decode by0 pc = .ok (.dastore, 1)) (hi : ds[i]? = some (a, .inl (.double, vs))) (hj : j = Int32.ofNat k) (hk : k < 2 ^ 31) (hl : k < vs.length) (hds : ds.set i (a, .inl (.double, vs.set k (.double x))) = ds') (hp : pc + 1 = pc') (hr : oW p l e R s m args below meth c Z h0 P ds' cells slots pc' Ls S) : oW p l e R s m args below meth c Z h0 P ds cells slots pc Ls (.double x :: .int j :: .ref a :: S) := by
  subst hp hds
  rintro T ⟨vm0, k0, locs, X, hS, hK0, N, M⟩
  replace K := K.since hS
  obtain ⟨ha, cl, A, hs⟩ := M.2.2 i _ hi
  obtain ⟨q1, q2⟩ := oLen hj hk (List.getElem?_eq_getElem hl) hs
  obtain ⟨T', h', X', e', Wr', st⟩ := stD X K.1.1 K.1.2.1 rfl A (x := x) q1 (g := mkF m pc Ls (.double x :: .int j :: .ref a :: S)) rfl rfl (hb K.1.2.2.1 hd)
  have ek : j.toNatClampNeg = k := by subst hj; exact Int32.toNatClampNeg_ofNat_of_lt hk
  refine oW.ends st (hr T' ⟨vm0, k0, _, X', hS, by rw [e', Wr'.size]; exact hK0, Fr.snoc X' N ha, ?_⟩)
  rw [e']
  refine M.put hi Wr' ⟨_, A.same Wr', ?_⟩
  rw [ek]; simp [Cell.setSlot, hs]
theorem oW.lastore (K : oK p s m meth c Z own by0 ml ret nm) {i k : Nat} {a : Addr} {vs : List Value} {j : Int32} {x : Int64} (hd : decode by0 pc = .ok (.lastore, 1)) (hi : ds[i]? = some (a, .inl (.long, vs))) (hj : j = Int32.ofNat k) (hk : k < 2 ^ 31) (hl : k < vs.length) (hds : ds.set i (a, .inl (.long, vs.set k (.long x))) = ds') (hp : pc + 1 = pc') (hr : oW p l e R s m args below meth c Z h0 P ds' cells slots pc' Ls S) : oW p l e R s m args below meth c Z h0 P ds cells slots pc Ls (.long x :: .int j :: .ref a :: S) := by
  subst hp hds
  rintro T ⟨vm0, k0, locs, X, hS, hK0, N, M⟩
  replace K := K.since hS
  obtain ⟨ha, cl, A, hs⟩ := M.2.2 i _ hi
  obtain ⟨q1, q2⟩ := oLen hj hk (List.getElem?_eq_getElem hl) hs
  obtain ⟨T', h', X', e', Wr', st⟩ := stJ X K.1.1 K.1.2.1 rfl A (x := x) q1 (g := mkF m pc Ls (.long x :: .int j :: .ref a :: S)) rfl rfl (hb K.1.2.2.1 hd)
  have ek : j.toNatClampNeg = k := by subst hj; exact Int32.toNatClampNeg_ofNat_of_lt hk
  refine oW.ends st (hr T' ⟨vm0, k0, _, X', hS, by rw [e', Wr'.size]; exact hK0, Fr.snoc X' N ha, ?_⟩)
  rw [e']
  refine M.put hi Wr' ⟨_, A.same Wr', ?_⟩
  rw [ek]; simp [Cell.setSlot, hs]
theorem oW.alen (K : oK p s m meth c Z own by0 ml ret nm) {i : Nat} {a : Addr} {ty : FieldType} {vs : List Value} {v : Int32} (hd : decode by0 pc = .ok (.arraylength, 1)) (hi : ds[i]? = some (a, .inl (ty, vs))) (hv : v = Int32.ofNat vs.length) (hp : pc + 1 = pc') (hr : oW p l e R s m args below meth c Z h0 P ds cells slots pc' Ls (.int v :: S)) : oW p l e R s m args below meth c Z h0 P ds cells slots pc Ls (.ref a :: S) := by
  subst hp
  rintro T ⟨vm0, k0, locs, X, hS, hK0, N, M⟩
  replace K := K.since hS
  obtain ⟨cl, A, hs⟩ := (M.2.2 i _ hi).2
  have ev : v = cl.slots.size.toInt32 := by rw [hv, hs]; simp
  subst ev
  exact oW.ends (fun t k => X.arraylength K.1.1 A.1 (State.isArrayOf_alike K.1.2.1.alike A.2.1) (g := mkF m pc Ls (.ref a :: S)) rfl rfl (hb K.1.2.2.1 hd) t k) (hr T ⟨vm0, k0, locs, X, hS, hK0, N, M⟩)
theorem oW.newarr (K : oK p s m meth c Z own by0 ml ret nm) {aty : ArrayType} {j : Int32} {n : Nat} (w : (Jvm.Cond.arrayClass (newarray.typeOf aty)).before a0 Z = true) (hd : decode by0 pc = .ok (.newarray aty, 2)) (hj : j = Int32.ofNat n) (hn : n < 2 ^ 31) (hb8 : n * 8 ≤ 536870912) (hc : cells + 1 ≤ R.cells) (hs : slots + n ≤ R.slots) {cells' slots' : Nat} (hc' : cells + 1 = cells') (hs' : slots + n = slots') {dsf : Addr → oDs} (hds : ∀ a, ds ++ [(a, .inl (newarray.typeOf aty, List.replicate n (defaultValue (newarray.typeOf aty))))] = dsf a) (hp : pc + 2 = pc')
    (hr : ∀ a : Addr, h0.size ≤ a → oW p l e R s m args below meth c Z h0 P (dsf a) cells' slots' pc' Ls (.ref a :: S)) : oW p l e R s m args below meth c Z h0 P ds cells slots pc Ls (.int j :: S) := by
  subst hp hc' hs'
  rintro T ⟨vm0, k0, locs, X, hS, hK0, N, M⟩
  replace K := K.since hS
  have ej : j.toNatClampNeg = n := by subst hj; exact Int32.toNatClampNeg_ofNat_of_lt hn
  obtain ⟨T', h', k, X', e', E', A', st⟩ := newP X K.1.1 K.1.2.1 w rfl (g := mkF m pc Ls (.int j :: S)) rfl (hb K.1.2.2.1 hd) rfl (by subst hj; exact Int32.ofNat_not_neg hn) (cap := n) (Nat.le_of_eq ej) hb8 hc hs
  refine oW.ends st (hr T.heap.size M.1.1 T' ⟨vm0, k0, _, X', hS, by rw [e']; exact Nat.le_trans hK0 E'.1, N, ?_⟩)
  rw [e', ← hds]
  refine M.push E' ⟨_, A', ?_⟩
  simp [newA, ej]
theorem oW.new (K : oK p s m meth c Z own by0 ml ret nm) {index n : Nat} {C : String} {fs : List (String × String × String × Value)} (w : (Jvm.Cond.classLink own index C).before a0 Z = true) (wi : (Jvm.Cond.instantiable C n).before a0 Z = true) (wz : (Jvm.Cond.initialized C).before a0 Z = true) (hL : ∀ f ∈ fs, Laid Z a0 C f.1 f.2.1 f.2.2.1 ∧ ∃ t, parseFieldDescriptor f.2.2.1 = some t ∧ f.2.2.2 = defaultValue t) (hd : decode by0 pc = .ok (.new index, 3)) (hc : cells + 1 ≤ R.cells) (hs : slots + n ≤ R.slots) {cells' slots' : Nat} (hc' : cells + 1 = cells') (hs' : slots + n = slots') {dsf : Addr → oDs} (hds : ∀ a, ds ++ [(a, .inr (C, fs))] = dsf a) (hp : pc + 3 = pc')
    (hr : ∀ a : Addr, h0.size ≤ a → oW p l e R s m args below meth c Z h0 P (dsf a) cells' slots' pc' Ls (.ref a :: S)) : oW p l e R s m args below meth c Z h0 P ds cells slots pc Ls S := by
  subst hp hc' hs'
  rintro T ⟨vm0, k0, locs, X, hS, hK0, N, M⟩
  replace K := K.since hS
  obtain ⟨T', h', X', e', E', A', D', -, st⟩ := newO X K.1.1 K.1.2.1 K.2.1 w wi wz rfl (g := mkF m pc Ls S) rfl (hb K.1.2.2.1 hd) hc hs
  refine oW.ends st (hr T.heap.size M.1.1 T' ⟨vm0, k0, _, X', hS, by rw [e']; exact Nat.le_trans hK0 E'.1, N, ?_⟩)
  rw [e', ← hds]
  refine M.push E' ⟨A', fun f hf => ?_⟩
  obtain ⟨L, t, h1, h2⟩ := hL f hf
  rw [h2]; exact D' L h1
theorem oW.getf (K : oK p s m meth c Z own by0 ml ret nm) {index i q : Nat} {a : Addr} {C O n d : String} {fs : List (String × String × String × Value)} {v : Value} (w : (Jvm.Cond.fieldLink own index O n d).before a0 Z = true) (hd : decode by0 pc = .ok (.getfield index, 3)) (hi : ds[i]? = some (a, .inr (C, fs))) (hf : fs[q]? = some (O, n, d, v)) (hp : pc + 3 = pc') (hr : oW p l e R s m args below meth c Z h0 P ds cells slots pc' Ls (v :: S)) : oW p l e R s m args below meth c Z h0 P ds cells slots pc Ls (.ref a :: S) := by
  subst hp
  rintro T ⟨vm0, k0, locs, X, hS, hK0, N, M⟩
  replace K := K.since hS
  obtain ⟨ha, hE, hF⟩ := M.2.2 i _ hi
  obtain ⟨T', X', e', st⟩ := getF X K.1.1 K.1.2.1 K.2.1 (host := "") (Or.inl w) Via.refl rfl (hF _ (List.mem_of_getElem? hf)) (g := mkF m pc Ls (.ref a :: S)) rfl rfl (hb K.1.2.2.1 hd)
  exact oW.ends st (hr T' ⟨vm0, k0, _, X', hS, by rw [e']; exact hK0, N, by rw [e']; exact M⟩)
theorem oW.putf (K : oK p s m meth c Z own by0 ml ret nm) {index i q kk : Nat} {a : Addr} {C O n d : String} {fs : List (String × String × String × Value)} {v old : Value} {ty : FieldType} (w : (Jvm.Cond.fieldLink own index O n d).before a0 Z = true) (L : (Jvm.Cond.lays C O n d).before a0 Z = true ∨ ((Jvm.Cond.laysFinal C O n d).before a0 Z = true ∧ own = O ∧ nm = "<init>")) (wi : (Jvm.Cond.instantiable C kk).before a0 Z = true) (hap : oApart Z fs) (hd : decode by0 pc = .ok (.putfield index, 3)) (hi : ds[i]? = some (a, .inr (C, fs))) (hf : fs[q]? = some (O, n, d, old)) (hty : parseFieldDescriptor d = some ty) (hn : narrow ty v = v) (hfit : fits ty v = true) (hds : ds.set i (a, .inr (C, fs.set q (O, n, d, v))) = ds') (hp : pc + 3 = pc') (hr : oW p l e R s m args below meth c Z h0 P ds' cells slots pc' Ls S) : oW p l e R s m args below meth c Z h0 P ds cells slots pc Ls (v :: .ref a :: S) := by
  subst hp hds
  rintro T ⟨vm0, k0, locs, X, hS, hK0, N, M⟩
  replace K := K.since hS
  obtain ⟨ha, hE, hF⟩ := M.2.2 i _ hi
  have hFq := hF _ (List.mem_of_getElem? hf)
  obtain ⟨T', h', X', e', Wr', st⟩ := putF X K.1.1 K.1.2.1 K.2.1 (host := "") (Or.inl w) Via.refl rfl hFq hE (L.imp id fun r => ⟨r.1, r.2.1, K.2.2.2.2.trans r.2.2⟩) wi hty hn hfit (g := mkF m pc Ls (v :: .ref a :: S)) rfl rfl (hb K.1.2.2.1 hd)
  refine oW.ends st (hr T' ⟨vm0, k0, _, X', hS, by rw [e', Wr'.size]; exact hK0, Fr.snoc X' N ha, ?_⟩)
  rw [e']
  refine M.put hi Wr' ⟨hE.wr Wr', fun f hf' => ?_⟩
  obtain ⟨r, hr'⟩ := List.getElem?_of_mem hf'
  rw [List.getElem?_set] at hr'
  split at hr'
  · rename_i er
    subst er
    rw [if_pos (List.getElem?_eq_some_iff.mp hf).1] at hr'
    cases hr'
    exact hFq.same Wr'
  · rename_i er
    have hh := hap r q f (O, n, d, old) (Ne.symm er) hr' hf
    exact (hF f (List.mem_of_getElem? hr')).other Wr' (Or.inr hh)
theorem oW.getst (K : oK p s m meth c Z own by0 ml ret nm) {index : Nat} {O n d : String} {v : Value} (w : (Jvm.Cond.fieldLink own index O n d).before a0 Z = true) (F : Sta Z h0 O n d v) (hd : decode by0 pc = .ok (.getstatic index, 3)) (hp : pc + 3 = pc') (hr : oW p l e R s m args below meth c Z h0 P ds cells slots pc' Ls (v :: S)) : oW p l e R s m args below meth c Z h0 P ds cells slots pc Ls S := by
  subst hp
  rintro T ⟨vm0, k0, locs, X, hS, hK0, N, M⟩
  replace K := K.since hS
  obtain ⟨T', X', e', st⟩ := getS2 X K.1.1 K.1.2.1 K.2.1 (host := "") (Or.inl w) Via.refl rfl (F.ext M.1) (g := mkF m pc Ls S) rfl (hb K.1.2.2.1 hd)
  exact oW.ends st (hr T' ⟨vm0, k0, _, X', hS, by rw [e']; exact hK0, N, by rw [e']; exact M⟩)
theorem oW.initO (K : oK p s m meth c Z own by0 ml ret nm) {idx : Nat} {a : Addr} {W : Nat} (w1 : (Jvm.Cond.methodLink own idx Lib.objectInit).before a0 Z = true) (w2 : (Jvm.Cond.instanceMethod Lib.objectInit).before a0 Z = true) (w3 : (Jvm.Cond.code Lib.objectInit ⟨#[0xb1]⟩ 1 none).before a0 Z = true) (hd : decode by0 pc = .ok (.invokespecial idx, 3)) (hsz : Ls.size = ml) (hf : 1 ≤ R.frames) (hW : (S.map fun v => v.category).sum ≤ W) (hl : W + 12 ≤ R.locals) (hp : pc + 3 = pc') (hr : oW p l e R s m args below meth c Z h0 P ds cells slots pc' Ls S) : oW p l e R s m args below meth c Z h0 P ds cells slots pc Ls (.ref a :: S) := by
  subst hp
  rintro T ⟨vm0, k0, locs, X, hS, hK0, N, M⟩
  replace K := K.since hS
  obtain ⟨T', X', e', st⟩ := Jvm.RoadKit.initO X K.1.1 K.1.2.1 K.2.1 w1 w2 w3 rfl (g := mkF m pc Ls (.ref a :: S)) rfl (hsz.trans K.1.2.2.2.symm) rfl (hb K.1.2.2.1 hd) hf (W := W) (by show 2 * 0 + _ ≤ _; omega) hl
  exact oW.ends st (hr T' ⟨vm0, k0, _, X', hS, by rw [e']; exact hK0, N, by rw [e']; exact M⟩)
theorem oW.leave (K : oK p s m meth c Z own by0 ml ret nm) {v : Option Value} (hv : ret = none → v = none) (hc : cells ≤ R.cells) (hs : slots ≤ R.slots) (hP : P v ds)
    (st : ∀ (vm0 : Vm) (T : State) (locs : List Loc) (fs : List Frame), Stand p l e R (s.setVm vm0) m args below meth c T locs cells slots → (∀ (f : JFrame) (acts : List Action), f.method = m → f.locked = none → f.entered = [] → (doReturn e (T.setTop f) acts v).1 = T.setFrames fs) → Steps p.tables e below (T.setTop (mkF m pc Ls S)) (T.setFrames fs)) : oW p l e R s m args below meth c Z h0 P ds cells slots pc Ls S := by
  rintro T ⟨vm0, k0, locs, X, hS, hK0, N, M⟩
  obtain ⟨fs, hr, hrun, hended, hW⟩ := X.leaveW hS hK0 (v := v) (fun h => hv (K.2.2.1.symm.trans h)) K.2.2.2.1
  exact ⟨_, _, st vm0 T locs fs X hr, hrun, hended, v, locs, rfl, ⟨N, ds, hP, M⟩, hW.1, hW.2.1, hW.2.2.1, hW.2.2.2.mono hc hs⟩
theorem oW.retB (K : oK p s m meth c Z own by0 ml ret nm) {z : Int32} (hret : ret = some .boolean) (hd : decode by0 pc = .ok (.ireturn, 1)) (hc : cells ≤ R.cells) (hs : slots ≤ R.slots) (hP : P (some (.int (nar .boolean z))) ds) : oW p l e R s m args below meth c Z h0 P ds cells slots pc Ls (.int z :: S) :=
  oW.leave K (by rw [hret]; intro h; cases h) hc hs hP fun vm0 T locs fs X hr => retN X K.1.1 (t := .boolean) (K.2.2.1.trans hret) (Or.inl rfl) (hb K.1.2.2.1 hd) hr
theorem oW.retI (K : oK p s m meth c Z own by0 ml ret nm) {z : Int32} (hret : ret = some .int) (hd : decode by0 pc = .ok (.ireturn, 1)) (hc : cells ≤ R.cells) (hs : slots ≤ R.slots) (hP : P (some (.int z)) ds) : oW p l e R s m args below meth c Z h0 P ds cells slots pc Ls (.int z :: S) :=
  oW.leave K (by rw [hret]; intro h; cases h) hc hs hP fun vm0 T locs fs X hr => retOut X K.1.1 (K.2.2.1.trans hret) rfl (Or.inl ⟨rfl, Or.inl rfl, _, rfl⟩) (hb K.1.2.2.1 hd) hr
theorem oW.retJ (K : oK p s m meth c Z own by0 ml ret nm) {z : Int64} (hret : ret = some .long) (hd : decode by0 pc = .ok (.lreturn, 1)) (hc : cells ≤ R.cells) (hs : slots ≤ R.slots) (hP : P (some (.long z)) ds) : oW p l e R s m args below meth c Z h0 P ds cells slots pc Ls (.long z :: S) :=
  oW.leave K (by rw [hret]; intro h; cases h) hc hs hP fun vm0 T locs fs X hr => retOut X K.1.1 (K.2.2.1.trans hret) rfl (Or.inr (Or.inl ⟨rfl, rfl, _, rfl⟩)) (hb K.1.2.2.1 hd) hr
theorem oW.retD (K : oK p s m meth c Z own by0 ml ret nm) {z : UInt64} (hret : ret = some .double) (hd : decode by0 pc = .ok (.dreturn, 1)) (hc : cells ≤ R.cells) (hs : slots ≤ R.slots) (hP : P (some (.double z)) ds) : oW p l e R s m args below meth c Z h0 P ds cells slots pc Ls (.double z :: S) :=
  oW.leave K (by rw [hret]; intro h; cases h) hc hs hP fun vm0 T locs fs X hr => retOut X K.1.1 (K.2.2.1.trans hret) rfl (Or.inr (Or.inr (Or.inl ⟨rfl, rfl, _, rfl⟩))) (hb K.1.2.2.1 hd) hr
theorem oW.retA (K : oK p s m meth c Z own by0 ml ret nm) {a : Addr} {t : FieldType} (hret : ret = some t) (ht : t.isReference = true) (hn : narrow t (.ref a) = .ref a) (hd : decode by0 pc = .ok (.areturn, 1)) (hc : cells ≤ R.cells) (hs : slots ≤ R.slots) (hP : P (some (.ref a)) ds) : oW p l e R s m args below meth c Z h0 P ds cells slots pc Ls (.ref a :: S) :=
  oW.leave K (by rw [hret]; intro h; cases h) hc hs hP fun vm0 T locs fs X hr => retOut X K.1.1 (K.2.2.1.trans hret) hn (Or.inr (Or.inr (Or.inr (Or.inr ⟨rfl, ht, rfl⟩)))) (hb K.1.2.2.1 hd) hr
theorem oW.retV (K : oK p s m meth c Z own by0 ml ret nm) (hret : ret = none) (hd : decode by0 pc = .ok (.return_, 1)) (hc : cells ≤ R.cells) (hs : slots ≤ R.slots) (hP : P none ds) : oW p l e R s m args below meth c Z h0 P ds cells slots pc Ls [] :=
  oW.leave K (fun _ => rfl) hc hs hP fun vm0 T locs fs X hr => X.returnOut K.1.1 (K.2.2.1.trans hret) (hb K.1.2.2.1 hd) hr
theorem oW.callS (K : oK p s m meth c Z own by0 ml ret nm) {y : MethodName} {index : Nat} {by1 : ByteArray} {ml1 : Nat} {rt1 : Option FieldType} {rm : Room} {argsL : List Value} {P2 : Value → oDs → Prop} {W : Nat} {cells' slots' : Nat}
    (w1 : (Jvm.Cond.methodLink own index y).before a0 Z = true) (w2 : (Jvm.Cond.static y).before a0 Z = true) (w3 : (Jvm.Cond.initialized y.cls).before a0 Z = true) (w4 : (Jvm.Cond.code y by1 ml1 rt1).before a0 Z = true) (hy : y.cls ≠ "java/lang/invoke/MethodHandle" ∧ y.cls ≠ "java/lang/invoke/VarHandle")
    (C : oCtr l Z h0 [] y by1 ml1 rt1 rm argsL.toArray ds (oVal P2)) (hlen : ∀ sig, parseMethodDescriptor y.desc = some sig → argsL.length = sig.parameters.length) (hd : decode by0 pc = .ok (.invokestatic index, 3)) (hst : S' = argsL.reverse ++ S) (hsz : Ls.size = ml) (hW : (S.map fun v => v.category).sum ≤ W) (hf : rm.frames + 1 ≤ R.frames) (hl : W + (ml1 + 11) + rm.locals ≤ R.locals) (hc : cells + rm.cells ≤ R.cells) (hs : slots + rm.slots ≤ R.slots) (hc' : cells + rm.cells = cells') (hs' : slots + rm.slots = slots') (hp : pc + 3 = pc')
    (hr : ∀ w ds', P2 w ds' → oW p l e R s m args below meth c Z h0 P ds' cells' slots' pc' Ls (w :: S)) : oW p l e R s m args below meth c Z h0 P ds cells slots pc Ls S' := by
  subst hp hst hc' hs'
  rintro T ⟨vm0, k0, locs, X, hS, hK0, N, M⟩
  replace K := K.since hS
  obtain ⟨v, vm1, ⟨T', L', k', n'⟩, -, X', hS2, hg2, ⟨Lc, hQ, l', y', z'⟩, st⟩ := callSS X K.1.1 K.2.1 (mvT K.1.2.1 w1) (mvT K.1.2.1 w2) (mvT K.1.2.1 w3) (mvT K.1.2.1 w4) hy (backOfS (W := W) (Q := fun v hp L => Fr h0.size L ∧ ∃ ds', (oVal P2) v ds' ∧ oMem Z h0 hp ds') (C T.heap M) K.1.2.1 w4 w3 hf hl) (g := mkF m pc Ls (argsL.reverse ++ S)) rfl (hsz.trans K.1.2.2.2.symm) (argsL := argsL) (rest := S) hlen rfl (by show 2 * 0 + _ ≤ _; omega) (hb K.1.2.2.1 hd) (fun _ _ => ⟨rfl, rfl, hc, hs⟩)
  dsimp only [Pt.U, Pt.locs, Pt.cells, Pt.slots] at X' l' y' z' st hQ hS2 hg2
  subst l' y' z'
  obtain ⟨N', ds', hP, M'⟩ := hQ
  obtain ⟨w, rfl, hP⟩ := hP
  exact oW.ends (fun t k => st.trans k) (hr w ds' hP T' ⟨T'.vm, T'.heap.size, _, X', hS.trans hS2 (Nat.le_trans hK0 hg2), Nat.le_refl _, N.app N', M'⟩)
theorem oW.callV (K : oK p s m meth c Z own by0 ml ret nm) {y z : MethodName} {C : String} {index : Nat} {by1 : ByteArray} {ml1 : Nat} {rt1 : Option FieldType} {rm : Room} {a : Addr} {argsL : List Value} {P2 : Value → oDs → Prop} {W : Nat} {cells' slots' : Nat}
    (w1 : (Jvm.Cond.methodLink own index y).before a0 Z = true) (w2 : (Jvm.Cond.declares y).before a0 Z = true) (w3 : (Jvm.Cond.selects C y z).before a0 Z = true) (w4 : (Jvm.Cond.instanceMethod z).before a0 Z = true) (w5 : (Jvm.Cond.code z by1 ml1 rt1).before a0 Z = true) (w6 : (Jvm.Cond.initialized z.cls).before a0 Z = true) (hy : y.cls ≠ "java/lang/invoke/MethodHandle" ∧ y.cls ≠ "java/lang/invoke/VarHandle")
    (hnf : ∀ s : State, Z.Warmed39 s.vm → NotFace s y) (hE : ∀ h, oMem Z h0 h ds → Exa Z h a C) (Ct : oCtr l Z h0 [] z by1 ml1 rt1 rm (.ref a :: argsL).toArray ds (oVal P2)) (hlen : ∀ sig, parseMethodDescriptor y.desc = some sig → argsL.length = sig.parameters.length) (hd : decode by0 pc = .ok (.invokevirtual index, 3)) (hst : S' = argsL.reverse ++ .ref a :: S) (hsz : Ls.size = ml) (hW : (S.map fun v => v.category).sum ≤ W) (hf : rm.frames + 1 ≤ R.frames) (hl : W + (ml1 + 11) + rm.locals ≤ R.locals) (hc : cells + rm.cells ≤ R.cells) (hs : slots + rm.slots ≤ R.slots) (hc' : cells + rm.cells = cells') (hs' : slots + rm.slots = slots') (hp : pc + 3 = pc')
    (hr : ∀ w ds', P2 w ds' → oW p l e R s m args below meth c Z h0 P ds' cells' slots' pc' Ls (w :: S)) : oW p l e R s m args below meth c Z h0 P ds cells slots pc Ls S' := by
  subst hp hst hc' hs'
  rintro T ⟨vm0, k0, locs, X, hS, hK0, N, M⟩
  replace K := K.since hS
  obtain ⟨cq, kq, qa, qb, qc⟩ := isOf K.1.2.1 rfl (hE T.heap M)
  have w3' : (Jvm.Cond.selects C y z).before args (s.setVm vm0) = true := mvT K.1.2.1 w3
  obtain ⟨v, vm1, ⟨T', L', k', n'⟩, -, X', hS2, hg2, ⟨Lc, hQ, l', y', z'⟩, st⟩ := X.virtualBackS K.1.1 K.2.1 (mvT K.1.2.1 w1) (mvT K.1.2.1 w2) (hnf (s.setVm vm0) K.1.2.1) w3' (mvT K.1.2.1 w4) hy (backOfS (W := W) (Q := fun v hp L => Fr h0.size L ∧ ∃ ds', (oVal P2) v ds' ∧ oMem Z h0 hp ds') (Ct T.heap M) K.1.2.1 w5 w6 hf hl) qa qc (g := mkF m pc Ls (argsL.reverse ++ .ref a :: S)) rfl (hsz.trans K.1.2.2.2.symm) (Steps.refl _) (argsL := argsL) (rest := S) hlen rfl (by show 2 * 0 + _ ≤ _; omega) (hb K.1.2.2.1 hd) (fun _ _ => ⟨rfl, rfl, hc, hs⟩)
  dsimp only [Pt.U, Pt.locs, Pt.cells, Pt.slots] at X' l' y' z' st hQ hS2 hg2
  subst l' y' z'
  obtain ⟨N', ds', hP, M'⟩ := hQ
  obtain ⟨w, rfl, hP⟩ := hP
  exact oW.ends (fun t k => st.trans k) (hr w ds' hP T' ⟨T'.vm, T'.heap.size, _, X', hS.trans hS2 (Nat.le_trans hK0 hg2), Nat.le_refl _, N.app N', M'⟩)
theorem oW.callS0 (K : oK p s m meth c Z own by0 ml ret nm) {y : MethodName} {index : Nat} {by1 : ByteArray} {ml1 : Nat} {rt1 : Option FieldType} {rm : Room} {argsL : List Value} {P2 : oDs → Prop} {W : Nat} {cells' slots' : Nat}
    (w1 : (Jvm.Cond.methodLink own index y).before a0 Z = true) (w2 : (Jvm.Cond.static y).before a0 Z = true) (w3 : (Jvm.Cond.initialized y.cls).before a0 Z = true) (w4 : (Jvm.Cond.code y by1 ml1 rt1).before a0 Z = true) (hy : y.cls ≠ "java/lang/invoke/MethodHandle" ∧ y.cls ≠ "java/lang/invoke/VarHandle")
    (C : oCtr l Z h0 [] y by1 ml1 rt1 rm argsL.toArray ds (oVoid P2)) (hlen : ∀ sig, parseMethodDescriptor y.desc = some sig → argsL.length = sig.parameters.length) (hd : decode by0 pc = .ok (.invokestatic index, 3)) (hst : S' = argsL.reverse ++ S) (hsz : Ls.size = ml) (hW : (S.map fun v => v.category).sum ≤ W) (hf : rm.frames + 1 ≤ R.frames) (hl : W + (ml1 + 11) + rm.locals ≤ R.locals) (hc : cells + rm.cells ≤ R.cells) (hs : slots + rm.slots ≤ R.slots) (hc' : cells + rm.cells = cells') (hs' : slots + rm.slots = slots') (hp : pc + 3 = pc')
    (hr : ∀ ds', P2 ds' → oW p l e R s m args below meth c Z h0 P ds' cells' slots' pc' Ls S) : oW p l e R s m args below meth c Z h0 P ds cells slots pc Ls S' := by
  subst hp hst hc' hs'
  rintro T ⟨vm0, k0, locs, X, hS, hK0, N, M⟩
  replace K := K.since hS
  obtain ⟨v, vm1, ⟨T', L', k', n'⟩, -, X', hS2, hg2, ⟨Lc, hQ, l', y', z'⟩, st⟩ := callSS X K.1.1 K.2.1 (mvT K.1.2.1 w1) (mvT K.1.2.1 w2) (mvT K.1.2.1 w3) (mvT K.1.2.1 w4) hy (backOfS (W := W) (Q := fun v hp L => Fr h0.size L ∧ ∃ ds', (oVoid P2) v ds' ∧ oMem Z h0 hp ds') (C T.heap M) K.1.2.1 w4 w3 hf hl) (g := mkF m pc Ls (argsL.reverse ++ S)) rfl (hsz.trans K.1.2.2.2.symm) (argsL := argsL) (rest := S) hlen rfl (by show 2 * 0 + _ ≤ _; omega) (hb K.1.2.2.1 hd) (fun _ _ => ⟨rfl, rfl, hc, hs⟩)
  dsimp only [Pt.U, Pt.locs, Pt.cells, Pt.slots] at X' l' y' z' st hQ hS2 hg2
  subst l' y' z'
  obtain ⟨N', ds', hP, M'⟩ := hQ
  obtain ⟨rfl, hP⟩ := hP
  exact oW.ends (fun t k => st.trans k) (hr ds' hP T' ⟨T'.vm, T'.heap.size, _, X', hS.trans hS2 (Nat.le_trans hK0 hg2), Nat.le_refl _, N.app N', M'⟩)
theorem oW.callI (K : oK p s m meth c Z own by0 ml ret nm) {y : MethodName} {index : Nat} {by1 : ByteArray} {ml1 : Nat} {rm : Room} {a : Addr} {argsL : List Value} {P2 : oDs → Prop} {W : Nat} {cells' slots' : Nat} (hin : y.name = "<init>")
    (w1 : (Jvm.Cond.methodLink own index y).before a0 Z = true) (w2 : (Jvm.Cond.instanceMethod y).before a0 Z = true) (w3 : (Jvm.Cond.initialized y.cls).before a0 Z = true) (w4 : (Jvm.Cond.code y by1 ml1 none).before a0 Z = true) (hy : y.cls ≠ "java/lang/invoke/MethodHandle" ∧ y.cls ≠ "java/lang/invoke/VarHandle")
    (C : oCtr l Z h0 [] y by1 ml1 none rm (.ref a :: argsL).toArray ds (oVoid P2)) (hlen : ∀ sig, parseMethodDescriptor y.desc = some sig → argsL.length = sig.parameters.length) (hd : decode by0 pc = .ok (.invokespecial index, 3)) (hst : S' = argsL.reverse ++ .ref a :: S) (hsz : Ls.size = ml) (hW : (S.map fun v => v.category).sum ≤ W) (hf : rm.frames + 1 ≤ R.frames) (hl : W + (ml1 + 11) + rm.locals ≤ R.locals) (hc : cells + rm.cells ≤ R.cells) (hs : slots + rm.slots ≤ R.slots) (hc' : cells + rm.cells = cells') (hs' : slots + rm.slots = slots') (hp : pc + 3 = pc')
    (hr : ∀ ds', P2 ds' → oW p l e R s m args below meth c Z h0 P ds' cells' slots' pc' Ls S) : oW p l e R s m args below meth c Z h0 P ds cells slots pc Ls S' := by
  subst hp hst hc' hs'
  rintro T ⟨vm0, k0, locs, X, hS, hK0, N, M⟩
  replace K := K.since hS
  obtain ⟨v, vm1, ⟨T', L', k', n'⟩, -, X', hS2, hg2, ⟨Lc, hQ, l', y', z'⟩, st⟩ := X.specialBackS K.1.1 hin K.2.1 (mvT K.1.2.1 w1) (mvT K.1.2.1 w2) (mvT K.1.2.1 w4) hy (backOfS (W := W) (Q := fun v hp L => Fr h0.size L ∧ ∃ ds', (oVoid P2) v ds' ∧ oMem Z h0 hp ds') (C T.heap M) K.1.2.1 w4 w3 hf hl) (g := mkF m pc Ls (argsL.reverse ++ .ref a :: S)) rfl (hsz.trans K.1.2.2.2.symm) (Steps.refl _) (a := a) (argsL := argsL) (rest := S) hlen rfl (by show 2 * 0 + _ ≤ _; omega) (hb K.1.2.2.1 hd) (fun _ _ => ⟨rfl, rfl, hc, hs⟩)
  dsimp only [Pt.U, Pt.locs, Pt.cells, Pt.slots] at X' l' y' z' st hQ hS2 hg2
  subst l' y' z'
  obtain ⟨N', ds', hP, M'⟩ := hQ
  obtain ⟨rfl, hP⟩ := hP
  exact oW.ends (fun t k => st.trans k) (hr ds' hP T' ⟨T'.vm, T'.heap.size, _, X', hS.trans hS2 (Nat.le_trans hK0 hg2), Nat.le_refl _, N.app N', M'⟩)
theorem oW.callV0 (K : oK p s m meth c Z own by0 ml ret nm) {y z : MethodName} {C : String} {index : Nat} {by1 : ByteArray} {ml1 : Nat} {rt1 : Option FieldType} {rm : Room} {a : Addr} {argsL : List Value} {P2 : oDs → Prop} {W : Nat} {cells' slots' : Nat}
    (w1 : (Jvm.Cond.methodLink own index y).before a0 Z = true) (w2 : (Jvm.Cond.declares y).before a0 Z = true) (w3 : (Jvm.Cond.selects C y z).before a0 Z = true) (w4 : (Jvm.Cond.instanceMethod z).before a0 Z = true) (w5 : (Jvm.Cond.code z by1 ml1 rt1).before a0 Z = true) (w6 : (Jvm.Cond.initialized z.cls).before a0 Z = true) (hy : y.cls ≠ "java/lang/invoke/MethodHandle" ∧ y.cls ≠ "java/lang/invoke/VarHandle")
    (hnf : ∀ s : State, Z.Warmed39 s.vm → NotFace s y) (hE : ∀ h, oMem Z h0 h ds → Exa Z h a C) (Ct : oCtr l Z h0 [] z by1 ml1 rt1 rm (.ref a :: argsL).toArray ds (oVoid P2)) (hlen : ∀ sig, parseMethodDescriptor y.desc = some sig → argsL.length = sig.parameters.length) (hd : decode by0 pc = .ok (.invokevirtual index, 3)) (hst : S' = argsL.reverse ++ .ref a :: S) (hsz : Ls.size = ml) (hW : (S.map fun v => v.category).sum ≤ W) (hf : rm.frames + 1 ≤ R.frames) (hl : W + (ml1 + 11) + rm.locals ≤ R.locals) (hc : cells + rm.cells ≤ R.cells) (hs : slots + rm.slots ≤ R.slots) (hc' : cells + rm.cells = cells') (hs' : slots + rm.slots = slots') (hp : pc + 3 = pc')
    (hr : ∀ ds', P2 ds' → oW p l e R s m args below meth c Z h0 P ds' cells' slots' pc' Ls S) : oW p l e R s m args below meth c Z h0 P ds cells slots pc Ls S' := by
  subst hp hst hc' hs'
  rintro T ⟨vm0, k0, locs, X, hS, hK0, N, M⟩
  replace K := K.since hS
  obtain ⟨cq, kq, qa, qb, qc⟩ := isOf K.1.2.1 rfl (hE T.heap M)
  have w3' : (Jvm.Cond.selects C y z).before args (s.setVm vm0) = true := mvT K.1.2.1 w3
  obtain ⟨v, vm1, ⟨T', L', k', n'⟩, -, X', hS2, hg2, ⟨Lc, hQ, l', y', z'⟩, st⟩ := X.virtualBackS K.1.1 K.2.1 (mvT K.1.2.1 w1) (mvT K.1.2.1 w2) (hnf (s.setVm vm0) K.1.2.1) w3' (mvT K.1.2.1 w4) hy (backOfS (W := W) (Q := fun v hp L => Fr h0.size L ∧ ∃ ds', (oVoid P2) v ds' ∧ oMem Z h0 hp ds') (Ct T.heap M) K.1.2.1 w5 w6 hf hl) qa qc (g := mkF m pc Ls (argsL.reverse ++ .ref a :: S)) rfl (hsz.trans K.1.2.2.2.symm) (Steps.refl _) (argsL := argsL) (rest := S) hlen rfl (by show 2 * 0 + _ ≤ _; omega) (hb K.1.2.2.1 hd) (fun _ _ => ⟨rfl, rfl, hc, hs⟩)
  dsimp only [Pt.U, Pt.locs, Pt.cells, Pt.slots] at X' l' y' z' st hQ hS2 hg2
  subst l' y' z'
  obtain ⟨N', ds', hP, M'⟩ := hQ
  obtain ⟨rfl, hP⟩ := hP
  exact oW.ends (fun t k => st.trans k) (hr ds' hP T' ⟨T'.vm, T'.heap.size, _, X', hS.trans hS2 (Nat.le_trans hK0 hg2), Nat.le_refl _, N.app N', M'⟩)
theorem oNF {C : String} {y : MethodName} (w : (Jvm.Cond.selects C y y).before a0 Z = true) : ∀ s : State, Z.Warmed39 s.vm → NotFace s y := fun s hZ => notFace_of_selects (args := #[]) (mvT hZ w)
theorem oMem.exa {h : Heap} {i : Nat} {a : Addr} {C : String} {fs : List (String × String × String × Value)} (hi : ds[i]? = some (a, .inr (C, fs))) (M : oMem Z h0 h ds) : Exa Z h a C := (M.2.2 i _ hi).2.1
theorem oW.ldcS (K : oK p s m meth c Z own by0 ml ret nm) {index n : Nat} {text : String} (w : (Jvm.Cond.stringLink own index text).before a0 Z = true) (wS : ∀ a ∈ Bundle.stringAtoms, a.before a0 Z = true) (hd : decode by0 pc = .ok (.ldc index, 2)) (hn : 4 * text.toList.length ≤ n) (hbig : n ≤ 536870912) (hc : cells + 2 ≤ R.cells) (hs : slots + (n + 4) ≤ R.slots) {cells' slots' : Nat} (hc' : cells + 2 = cells') (hs' : slots + (n + 4) = slots') (hp : pc + 2 = pc') (hr : ∀ a : Addr, oW p l e R s m args below meth c Z h0 P ds cells' slots' pc' Ls (.ref a :: S)) : oW p l e R s m args below meth c Z h0 P ds cells slots pc Ls S := by
  subst hp hc' hs'
  rintro T ⟨vm0, k0, locs, X, hS, hK0, N, M⟩
  replace K := K.since hS
  obtain ⟨a, T', h', k1, X', e', E', hS', hk', -, -, st⟩ := Jvm.RoadKit.ldcS X K.1.1 K.1.2.1 K.2.1 w wS rfl hS hK0 (g := mkF m pc Ls S) rfl (hb K.1.2.2.1 hd) hn hbig hc hs
  exact oW.ends st (hr a T' ⟨T'.vm, k1, locs, X', hS', by rw [e']; exact hk', N, by rw [e']; exact M.ext E'⟩)
theorem oW.castR (K : oK p s m meth c Z own by0 ml ret nm) {index : Nat} {a : Addr} {C : String} (w : (Jvm.Cond.classLink own index C).before a0 Z = true) (hI : ∀ h, oMem Z h0 h ds → Ins Z h a C true) (hd : decode by0 pc = .ok (.checkcast index, 3)) (hp : pc + 3 = pc') (hr : oW p l e R s m args below meth c Z h0 P ds cells slots pc' Ls (.ref a :: S)) : oW p l e R s m args below meth c Z h0 P ds cells slots pc Ls (.ref a :: S) := by
  subst hp
  rintro T ⟨vm0, k0, locs, X, hS, hK0, N, M⟩
  replace K := K.since hS
  obtain ⟨T', X', e', st⟩ := castY X K.1.1 K.1.2.1 K.2.1 w rfl (hI T.heap M) (g := mkF m pc Ls (.ref a :: S)) rfl rfl (hb K.1.2.2.1 hd)
  exact oW.ends st (hr T' ⟨vm0, k0, _, X', hS, by rw [e']; exact hK0, N, by rw [e']; exact M⟩)
open Jvm.Free.Fl in
theorem oW.isInf (K : oK p s m meth c Z own by0 ml ret nm) {index : Nat} {x : UInt64} {W : Nat} (w1 : (Jvm.Cond.methodLink own index IsInfinite.yN).before a0 Z = true) (w2 : (Jvm.Cond.static IsInfinite.yN).before a0 Z = true) (w3 : (Jvm.Cond.initialized "java/lang/Double").before a0 Z = true) (w4 : (Jvm.Cond.code IsInfinite.yN IsInfinite.yB 2 (some .boolean)).before a0 Z = true) (w5 : (Jvm.Cond.methodLink "java/lang/Double" 38 Abs.absDN).before a0 Z = true) (w6 : (Jvm.Cond.static Abs.absDN).before a0 Z = true) (w7 : (Jvm.Cond.initialized "java/lang/Math").before a0 Z = true) (w8 : (Jvm.Cond.code Abs.absDN Abs.absDCode 2 (some .double)).before a0 Z = true) (w9 : (Jvm.Cond.constantDouble "java/lang/Double" 111 maxD).before a0 Z = true) (hx : Fin64 x) (hd : decode by0 pc = .ok (.invokestatic index, 3)) (hsz : Ls.size = ml) (hW : (S.map fun v => v.category).sum ≤ W) (hf : 2 ≤ R.frames) (hl : W + 13 + 13 ≤ R.locals) (hc : cells ≤ R.cells) (hs : slots ≤ R.slots) (hp : pc + 3 = pc') (hr : oW p l e R s m args below meth c Z h0 P ds cells slots pc' Ls (.int 0 :: S)) : oW p l e R s m args below meth c Z h0 P ds cells slots pc Ls (.double x :: S) := by
  subst hp
  rintro T ⟨vm0, k0, locs, X, hS, hK0, N, M⟩
  replace K := K.since hS
  obtain ⟨v, vm1, ⟨T', L', k', n'⟩, -, X', ⟨⟨e1, e2, e3, e4⟩, hv⟩, st⟩ := Jvm.LawKit.callS X K.1.1 K.2.1 (mvT K.1.2.1 w1) (mvT K.1.2.1 w2) (mvT K.1.2.1 w3) (mvT K.1.2.1 w4) (by decide) (IsInfinite.pays (W := W) hf hl (by simp only [IsInfinite.tab, Cond.before_and, Bool.and_eq_true]; exact ⟨mvT K.1.2.1 w4, mvT K.1.2.1 w5, mvT K.1.2.1 w6, mvT K.1.2.1 w7, mvT K.1.2.1 w8, mvT K.1.2.1 w9⟩) (mvT K.1.2.1 w3)) (g := mkF m pc Ls (.double x :: S)) rfl (hsz.trans K.1.2.2.2.symm) (argsL := [.double x]) (rest := S) (lenOf (show parseMethodDescriptor "(D)Z" = some ⟨[.double], some .boolean⟩ by decide +kernel) rfl) rfl (by show 2 * 0 + _ ≤ _; omega) (hb K.1.2.2.1 hd) (fun _ _ => ⟨hc, hs, x, rfl, hx.noNaN⟩)
  dsimp only [Pt.U, Pt.locs, Pt.cells, Pt.slots] at X' e1 e2 e3 e4 st
  subst e2 e3 e4
  have hv' := hv x ⟨rfl, hx.noNaN⟩
  rw [if_neg (fun h4 => (gt_max_iff hx.noNaN).mp h4 hx)] at hv'
  subst hv'
  have e1' : T'.heap = T.heap := e1
  exact oW.ends st (hr T' ⟨vm0, k0, _, X', hS, by rw [e1']; exact hK0, N, by rw [e1']; exact M⟩)
end Steps
section Nums
open Jvm.FP Jvm.Free.Fl
theorem oN53 : (2 ^ 53 : Nat) = 9007199254740992 := by decide
theorem oTs : (0 : Int32).toInt = 0 ∧ (1 : Int32).toInt = 1 ∧ (2 : Int32).toInt = 2 ∧ (3 : Int32).toInt = 3 ∧ (4 : Int32).toInt = 4 ∧ (5 : Int32).toInt = 5 ∧ (6 : Int32).toInt = 6 ∧ (7 : Int32).toInt = 7 ∧ (8 : Int32).toInt = 8 ∧ (9 : Int32).toInt = 9 ∧ (-1 : Int32).toInt = -1 ∧ (0 : Int64).toInt = 0 ∧ (1 : Int64).toInt = 1 ∧ (2 : Int64).toInt = 2 ∧ (8 : Int64).toInt = 8 ∧ (-1 : Int64).toInt = -1 := by decide
theorem oB32 (x : Int32) : -2147483648 ≤ x.toInt ∧ x.toInt ≤ 2147483647 := by
  have h1 := Int32.le_toInt x; have h2 := Int32.toInt_lt x; omega
theorem oB64 (x : Int64) : -9223372036854775808 ≤ x.toInt ∧ x.toInt ≤ 9223372036854775807 := by
  have h1 := Int64.le_toInt x; have h2 := Int64.toInt_lt x; omega
theorem oNN {i : Int} {x : UInt64} (h : Core.DInt i x) : NoNaN64 x := val64_no.mpr (Core.DInt_ne_nan h)
theorem oI2D {a : Int32} {v : UInt64} (h : v = FP.i2d a) : Core.DInt a.toInt v := h ▸ Core.i2d_int a
theorem oL2D {a : Int64} {v : UInt64} (h : v = FP.l2d a) (b : -9007199254740992 ≤ a.toInt ∧ a.toInt ≤ 9007199254740992) : Core.DInt a.toInt v := h ▸ Core.l2d_int (by have := oN53; omega)
theorem oDK (i : Int) {x : UInt64} (h : FP.l2d (Int64.ofInt i) = x) (b : (Int64.ofInt i).toInt = i ∧ (Int64.ofInt i).toInt.natAbs ≤ 2 ^ 53) : Core.DInt i x := by
  have := Core.l2d_int b.2
  rw [b.1] at this; exact h ▸ this
theorem oDAdd {i j : Int} {x y v : UInt64} (hx : Core.DInt i x) (hy : Core.DInt j y) (h : v = FP.dadd x y) (b : -9007199254740992 ≤ i + j ∧ i + j ≤ 9007199254740992) : Core.DInt (i + j) v := h ▸ Core.dadd_int hx hy (by have := oN53; omega)
theorem oDSub {i j : Int} {x y v : UInt64} (hx : Core.DInt i x) (hy : Core.DInt j y) (h : v = FP.dsub x y) (b : -9007199254740992 ≤ i - j ∧ i - j ≤ 9007199254740992) : Core.DInt (i - j) v := h ▸ Core.dsub_int hx hy (by have := oN53; omega)
theorem oDMul {i j : Int} {x y v : UInt64} (hx : Core.DInt i x) (hy : Core.DInt j y) (h : v = FP.dmul x y) (b : -9007199254740992 ≤ i * j ∧ i * j ≤ 9007199254740992) : Core.DInt (i * j) v := h ▸ Core.dmul_int hx hy (by have := oN53; omega)
theorem oCmp {i j : Int} {x y : UInt64} {o : CmpOp} {v : Int32} (hx : Core.DInt i x) (hy : Core.DInt j y) (h : v = cmpValue (FP.dcmp x y) o) : (v < 0 ↔ i < j) ∧ (v = 0 ↔ i = j) ∧ (0 < v ↔ j < i) := by
  have e : FP.dcmp x y = some (compare i j) := Core.dcmp_int hx hy
  rw [h, e, Core.compare_ite]
  by_cases h1 : i < j
  · have h2 : ¬ i = j := by omega
    have h3 : ¬ j < i := by omega
    simp only [h1, if_true, h2, h3, iff_false, iff_true]
    cases o <;> decide
  · by_cases h2 : i = j
    · have h3 : ¬ j < i := by omega
      simp only [h1, h2, if_false, if_true, iff_true, Int.lt_irrefl, iff_false]
      cases o <;> decide
    · have h3 : j < i := by omega
      simp only [h1, h2, h3, if_false, iff_false, iff_true]
      cases o <;> decide
theorem oLadd {x y z : Int64} (h : z = x + y) (b : -9223372036854775808 ≤ x.toInt + y.toInt ∧ x.toInt + y.toInt ≤ 9223372036854775807) : z.toInt = x.toInt + y.toInt := by
  rw [h, Int64.toInt_add]; exact Int.bmod_eq_of_le (by omega) (by omega)
theorem oLsub {x y z : Int64} (h : z = x - y) (b : -9223372036854775808 ≤ x.toInt - y.toInt ∧ x.toInt - y.toInt ≤ 9223372036854775807) : z.toInt = x.toInt - y.toInt := by
  rw [h, Int64.toInt_sub]; exact Int.bmod_eq_of_le (by omega) (by omega)
theorem oLmul {x y z : Int64} (h : z = x * y) (b : -9223372036854775808 ≤ x.toInt * y.toInt ∧ x.toInt * y.toInt ≤ 9223372036854775807) : z.toInt = x.toInt * y.toInt := by
  rw [h, Int64.toInt_mul]; exact Int.bmod_eq_of_le (by omega) (by omega)
theorem oIadd {x y z : Int32} (h : z = x + y) (b : -2147483648 ≤ x.toInt + y.toInt ∧ x.toInt + y.toInt ≤ 2147483647) : z.toInt = x.toInt + y.toInt := by
  rw [h, Int32.toInt_add]; exact Int.bmod_eq_of_le (by omega) (by omega)
theorem oIsub {x y z : Int32} (h : z = x - y) (b : -2147483648 ≤ x.toInt - y.toInt ∧ x.toInt - y.toInt ≤ 2147483647) : z.toInt = x.toInt - y.toInt := by
  rw [h, Int32.toInt_sub]; exact Int.bmod_eq_of_le (by omega) (by omega)
theorem oImul {x y z : Int32} (h : z = x * y) (b : -2147483648 ≤ x.toInt * y.toInt ∧ x.toInt * y.toInt ≤ 2147483647) : z.toInt = x.toInt * y.toInt := by
  rw [h, Int32.toInt_mul]; exact Int.bmod_eq_of_le (by omega) (by omega)
theorem oI2L {x : Int32} {z : Int64} (h : z = x.toInt64) : z.toInt = x.toInt := by rw [h]; exact Int32.toInt_toInt64 x
theorem oLcmp {x y : Int64} {v : Int32} (h : v = XT.cmpL x y) : (v < 0 ↔ x.toInt < y.toInt) ∧ (v = 0 ↔ x.toInt = y.toInt) ∧ (0 < v ↔ y.toInt < x.toInt) := by
  rw [h, XT.cmpL]
  simp only [Int64.lt_iff_toInt_lt, ← Int64.toInt_inj]
  by_cases h1 : y.toInt < x.toInt
  · have h2 : ¬ x.toInt = y.toInt := by omega
    have h3 : ¬ x.toInt < y.toInt := by omega
    simp only [h1, h2, h3, if_true, iff_true, iff_false]; decide
  · by_cases h2 : x.toInt = y.toInt
    · have h3 : ¬ x.toInt < y.toInt := by omega
      simp only [h1, h2, if_false, if_true, iff_true, Int.lt_irrefl, iff_false]; decide
    · have h3 : x.toInt < y.toInt := by omega
      simp only [h1, h2, h3, if_false, iff_false, iff_true]; decide
theorem oLt32 {x y : Int32} : x < y ↔ x.toInt < y.toInt := Int32.lt_iff_toInt_lt
theorem oEq32 {x y : Int32} : x = y ↔ x.toInt = y.toInt := Int32.toInt_inj.symm
theorem oEq64 {x y : Int64} : x = y ↔ x.toInt = y.toInt := Int64.toInt_inj.symm
theorem oMask (x : Int32) (k : Nat) (hk : k < 2 ^ 31) : ∃ n : Nat, n ≤ k ∧ (x &&& Int32.ofNat k) = Int32.ofNat n := by
  refine ⟨(x &&& Int32.ofNat k).toBitVec.toNat, ?_, ?_⟩
  · have e : (Int32.ofNat k).toBitVec.toNat = k := by
      show (BitVec.ofNat 32 k).toNat = k
      rw [BitVec.toNat_ofNat]; exact Nat.mod_eq_of_lt (by omega)
    rw [Int32.toBitVec_and, BitVec.toNat_and, e]; exact Nat.and_le_right
  · apply Int32.toBitVec_inj.mp
    show _ = BitVec.ofNat 32 _
    rw [BitVec.ofNat_toNat]; simp
theorem oMask3 {x v : Int32} (h : v = x &&& 3) : v = 0 ∨ v = 1 ∨ v = 2 ∨ v = 3 := by
  obtain ⟨n, hn, e⟩ := oMask x 3 (by decide)
  have e' : v = Int32.ofNat n := h.trans e
  have : n = 0 ∨ n = 1 ∨ n = 2 ∨ n = 3 := by omega
  rcases this with rfl | rfl | rfl | rfl
  · exact Or.inl e'
  · exact Or.inr (Or.inl e')
  · exact Or.inr (Or.inr (Or.inl e'))
  · exact Or.inr (Or.inr (Or.inr e'))
theorem oMask1 {x v : Int32} (h : v = x &&& 1) : v = 0 ∨ v = 1 := by
  obtain ⟨n, hn, e⟩ := oMask x 1 (by decide)
  have e' : v = Int32.ofNat n := h.trans e
  have : n = 0 ∨ n = 1 := by omega
  rcases this with rfl | rfl
  · exact Or.inl e'
  · exact Or.inr e'
theorem oMaskR {x v : Int32} (k : Nat) (hk : k < 2 ^ 31) (h : v = x &&& Int32.ofNat k) : 0 ≤ v.toInt ∧ v.toInt ≤ k := by
  obtain ⟨n, hn, e⟩ := oMask x k hk
  rw [h, e, Int32.toInt_ofNat_of_lt (by omega)]; omega
theorem oRem {u v y : Int32} (k : Int) (h : v = u % y) (hy : y.toInt = k) (hu : 0 ≤ u.toInt) : v.toInt = u.toInt % k := h ▸ (c_irem u y k hy).1 hu
/-! how great a double can be: her exponent's field is below K -/
abbrev oMag (K : Nat) (x : UInt64) : Prop := Jvm.Free.Fl.Mag64 K x
theorem oMNN {K : Nat} {x : UInt64} (h : oMag K x) (hK : K ≤ 2047) : NoNaN64 x := (h.fin hK).noNaN
theorem oMI2D {a : Int32} {v : UInt64} (h : v = FP.i2d a) : oMag 1056 v := h ▸ i2d_mag a
theorem oML2D {a : Int64} {v : UInt64} (h : v = FP.l2d a) : oMag 1088 v := h ▸ l2d_mag a
theorem oMMul {A B K : Nat} {x y v : UInt64} (hx : oMag A x) (hy : oMag B y) (h : v = FP.dmul x y) (b : A ≤ 2047 ∧ B ≤ 2047 ∧ A + B - 1025 + 3 ≤ K) : oMag K v := h ▸ (dmul_mag hx hy b.1 b.2.1).mono b.2.2
theorem oMAdd {A K : Nat} {x y v : UInt64} (hx : oMag A x) (hy : oMag A y) (h : v = FP.dadd x y) (b : A ≤ 2047 ∧ A + 2 ≤ K) : oMag K v := h ▸ (dadd_mag hx hy b.1).mono b.2
theorem oMSub {A K : Nat} {x y v : UInt64} (hx : oMag A x) (hy : oMag A y) (h : v = FP.dsub x y) (b : A ≤ 2047 ∧ A + 2 ≤ K) : oMag K v := h ▸ (dsub_mag hx hy b.1).mono b.2
theorem oMDiv {A L K : Nat} {x y v : UInt64} (hx : oMag A x) (hy : Big64 L y) (h : v = FP.ddiv x y) (b : A ≤ 2047 ∧ 1 ≤ L ∧ A + 1021 - L + 3 ≤ K) : oMag K v := h ▸ (ddiv_mag hx hy b.1 b.2.1).mono b.2.2
theorem oSame {x y : UInt64} {o : CmpOp} {v : Int32} (e : v = cmpValue (FP.dcmp x y) o) (h : x = y) (n : NoNaN64 x) : v = 0 := e.trans (dcmpV_eq h n o)
/-! a double that is no NaN, by its value in units of the least double (an infinity counts as the first number past the greatest) -/
def oZv (i : Int) (x : UInt64) : Prop := Core.val64 x ≠ .nan ∧ Core.zval Core.b64 (Core.val64 x) = i
theorem oZv.of {x : UInt64} (h : NoNaN64 x) : oZv (Core.zval Core.b64 (Core.val64 x)) x := ⟨val64_no.mp h, rfl⟩
theorem oZv.nn {i : Int} {x : UInt64} (h : oZv i x) : NoNaN64 x := val64_no.mpr h.1
theorem oZv.int {i : Int} {x : UInt64} (h : Core.DInt i x) : oZv (i * (Core.one64 : Int)) x := ⟨Core.DInt_ne_nan h, Core.DInt_zval h⟩
theorem oZmono {i j : Int} (h : i ≤ j) : i * (Core.one64 : Int) ≤ j * (Core.one64 : Int) := Int.mul_le_mul_of_nonneg_right h (Int.natCast_nonneg _)
theorem oCmpZ {i j : Int} {x y : UInt64} {o : CmpOp} {v : Int32} (hx : oZv i x) (hy : oZv j y) (h : v = cmpValue (FP.dcmp x y) o) : (v < 0 ↔ i < j) ∧ (v = 0 ↔ i = j) ∧ (0 < v ↔ j < i) := by
  have e : FP.dcmp x y = some (compare i j) := by have := Core.dcmp_zval hx.1 hy.1; rw [hx.2, hy.2] at this; exact this
  rw [h, e, Core.compare_ite]
  by_cases h1 : i < j
  · have h2 : ¬ i = j := by omega
    have h3 : ¬ j < i := by omega
    simp only [h1, if_true, h2, h3, iff_false, iff_true]
    cases o <;> decide
  · by_cases h2 : i = j
    · have h3 : ¬ j < i := by omega
      simp only [h1, h2, if_false, if_true, iff_true, Int.lt_irrefl, iff_false]
      cases o <;> decide
    · have h3 : j < i := by omega
      simp only [h1, h2, h3, if_false, iff_false, iff_true]
      cases o <;> decide
end Nums
section Dy
open Jvm.FP Jvm.FP.Core
/-! doubles that are n / 2^k exactly: her value in units of the least double is n * 2^(1074 - k) -/
def oQ (n : Int) (k : Nat) (x : UInt64) : Prop := DFin x ∧ zval b64 (val64 x) = n * ((2 ^ (1074 - k) : Nat) : Int)
theorem oQ.nn {n : Int} {k : Nat} {x : UInt64} (h : oQ n k x) : Jvm.Free.Fl.NoNaN64 x := Jvm.Free.Fl.val64_no.mpr h.1.ne_nan
theorem oQ.zv {n : Int} {k : Nat} {x : UInt64} (h : oQ n k x) : oZv (n * ((2 ^ (1074 - k) : Nat) : Int)) x := ⟨h.1.ne_nan, h.2⟩
theorem oQ.fin {n : Int} {k : Nat} {x : UInt64} (h : oQ n k x) : ∃ s c q, val64 x = .fin s c q ∧ Core.fits b64 (Datum.fin s c q) ∧ signed s (inUnits c q b64.qmin) = n * ((2 ^ (1074 - k) : Nat) : Int) := by
  obtain ⟨⟨s, c, q, e⟩, z⟩ := h
  have f := val64_fits x
  rw [e] at f z
  exact ⟨s, c, q, e, f, z⟩
theorem oQ.int {i : Int} {x : UInt64} (h : DInt i x) : oQ i 0 x := by
  refine ⟨?_, ?_⟩
  · have h' : Whole i (val64 x) := h
    cases e : val64 x with
    | nan => rw [e] at h'; exact h'.elim
    | inf s => rw [e] at h'; exact h'.elim
    | fin s c q => exact ⟨s, c, q, e⟩
  · rw [DInt_zval h]; rfl
theorem oPowCancel {A B a b : Nat} (h : A * 2 ^ a = B * 2 ^ b) : A * 2 ^ (a - b) = B * 2 ^ (b - a) := by
  rcases Nat.le_total a b with q | q
  · have e : 2 ^ b = 2 ^ (b - a) * 2 ^ a := by rw [← Nat.pow_add]; congr 1; omega
    rw [e, ← Nat.mul_assoc] at h
    rw [show a - b = 0 by omega, Nat.pow_zero, Nat.mul_one]
    exact Nat.eq_of_mul_eq_mul_right (Nat.two_pow_pos a) h
  · have e : 2 ^ a = 2 ^ (a - b) * 2 ^ b := by rw [← Nat.pow_add]; congr 1; omega
    rw [e, ← Nat.mul_assoc] at h
    rw [show b - a = 0 by omega, Nat.pow_zero, Nat.mul_one]
    exact Nat.eq_of_mul_eq_mul_right (Nat.two_pow_pos b) h
/-- a quotient that is N / 2^k, written otherwise -/
theorem oRR {s : Bool} {A B N M k : Nat} {e : Int} (hB : 0 < B) (hM : 0 ≤ e + M) (hk : k ≤ M) (h : A * 2 ^ (e + M).toNat = N * B * 2 ^ (M - k)) : roundRatio b64 s A B e = roundRatio b64 s N 1 (-(k : Int)) := by
  refine roundRatio_congr hB (by decide) ?_
  have c := oPowCancel h
  rw [show (e - -(k : Int)).toNat = (e + M).toNat - (M - k) by omega, show (-(k : Int) - e).toNat = (M - k) - (e + M).toNat by omega, Nat.mul_one]
  exact c
theorem oQmax (k : Nat) : -(k : Int) ≤ b64.qmax := by
  have h : b64.qmax = 971 := by decide
  omega
theorem oRX {s : Bool} {N k : Nat} (hN : N < 9007199254740992) (hk : k ≤ 1074) : ∃ c q, roundRatio b64 s N 1 (-(k : Int)) = .fin s c q ∧ inUnits c q b64.qmin = N * 2 ^ (1074 - k) := by
  obtain ⟨c, q, h1, h2⟩ := round_exact good_b64 s (c := N) (q := -(k : Int)) (by show N < 2 ^ 53; omega) (by rw [qmin_b64]; omega) (oQmax k)
  refine ⟨c, q, h1, h2.trans ?_⟩
  unfold inUnits; rw [qmin_b64]; congr 2; omega
theorem oSgn {s : Bool} {N : Nat} {n : Int} {P : Nat} (hP : 0 < P) (h : signed s (N * P) = n * (P : Int)) : signed s N = n := by
  rw [signed_mul] at h
  exact Int.eq_of_mul_eq_mul_right (by omega) h
theorem oAbs {s : Bool} {C N P : Nat} {n : Int} (h : signed s C = n * (P : Int)) (hN : n.natAbs = N) : C = N * P := by
  have := congrArg Int.natAbs h
  rw [natAbs_signed, Int.natAbs_mul, hN, Int.natAbs_natCast] at this
  exact this
/-- what is rounded from n / 2^k is just that -/
theorem oRnd {x : UInt64} {s : Bool} {A B M k : Nat} {e n : Int} (hx : val64 x = roundRatio b64 s A B e) (hB : 0 < B) (hM : 0 ≤ e + M) (hk : k ≤ M) (hk2 : k ≤ 1074) (hn : -9007199254740992 < n ∧ n < 9007199254740992) (h : signed s (A * 2 ^ (e + M).toNat) = n * ((B * 2 ^ (M - k) : Nat) : Int)) : oQ n k x := by
  have hA := oAbs h rfl
  rw [← Nat.mul_assoc] at hA
  rw [oRR hB hM hk hA] at hx
  obtain ⟨c, q, h1, h2⟩ := oRX (s := s) (N := n.natAbs) (k := k) (by omega) hk2
  rw [h1] at hx
  refine ⟨⟨s, c, q, hx⟩, ?_⟩
  rw [hx]
  show signed s (inUnits c q b64.qmin) = _
  rw [h2, signed_mul]
  have : signed s n.natAbs = n := by
    rw [hA, Nat.mul_assoc] at h
    exact oSgn (P := B * 2 ^ (M - k)) (Nat.mul_pos hB (Nat.two_pow_pos _)) h
  rw [this]
theorem oQ.add {n m : Int} {k : Nat} {x y v : UInt64} (hx : oQ n k x) (hy : oQ m k y) (e : v = FP.dadd x y) (hk : k ≤ 1074) (b : -9007199254740992 < n + m ∧ n + m < 9007199254740992) : oQ (n + m) k v := by
  obtain ⟨s, c, q, e1, f1, z1⟩ := hx.fin
  obtain ⟨t, d, r, e2, f2, z2⟩ := hy.fin
  obtain ⟨sg, C, E, h1, h2, h3⟩ := sum_units f1 f2
  have hv : val64 v = roundRatio b64 sg C 1 E := by rw [e]; show val64 (Core.dadd x y) = _; rw [val64_dadd, e1, e2, h1]; rfl
  rw [qmin_b64] at h2
  refine oRnd (M := 1074) hv (by decide) (by omega) hk hk b ?_
  have h4 : signed sg (inUnits C E b64.qmin) = (n + m) * ((2 ^ (1074 - k) : Nat) : Int) := by
    rw [h3]; show signed s (inUnits c q b64.qmin) + signed t (inUnits d r b64.qmin) = _; rw [z1, z2, Int.add_mul]
  rw [Nat.one_mul, ← h4]; unfold inUnits; rw [qmin_b64]; congr 3
theorem oQ.neg {n : Int} {k : Nat} {x : UInt64} (hx : oQ n k x) : ∃ s c q, negate (val64 x) = .fin s c q ∧ Core.fits b64 (Datum.fin s c q) ∧ signed s (inUnits c q b64.qmin) = (-n) * ((2 ^ (1074 - k) : Nat) : Int) := by
  obtain ⟨s, c, q, e1, f1, z1⟩ := hx.fin
  refine ⟨!s, c, q, by rw [e1]; rfl, f1, ?_⟩
  rw [signed_not, z1, Int.neg_mul]
theorem oQ.sub {n m : Int} {k : Nat} {x y v : UInt64} (hx : oQ n k x) (hy : oQ m k y) (e : v = FP.dsub x y) (hk : k ≤ 1074) (b : -9007199254740992 < n - m ∧ n - m < 9007199254740992) : oQ (n - m) k v := by
  obtain ⟨s, c, q, e1, f1, z1⟩ := hx.fin
  obtain ⟨t, d, r, e2, f2, z2⟩ := hy.neg
  obtain ⟨sg, C, E, h1, h2, h3⟩ := sum_units f1 f2
  have hv : val64 v = roundRatio b64 sg C 1 E := by rw [e]; show val64 (Core.dsub x y) = _; rw [val64_dsub, e1, e2, h1]; rfl
  rw [qmin_b64] at h2
  refine oRnd (M := 1074) hv (by decide) (by omega) hk hk b ?_
  have h4 : signed sg (inUnits C E b64.qmin) = (n - m) * ((2 ^ (1074 - k) : Nat) : Int) := by
    rw [h3]; show signed s (inUnits c q b64.qmin) + signed t (inUnits d r b64.qmin) = _; rw [z1, z2, ← Int.add_mul, Int.sub_eq_add_neg]
  rw [Nat.one_mul, ← h4]; unfold inUnits; rw [qmin_b64]; congr 3
theorem oQ.mul {n m : Int} {k j : Nat} {x y v : UInt64} (hx : oQ n k x) (hy : oQ m j y) (e : v = FP.dmul x y) (hk : k + j ≤ 1074) (b : -9007199254740992 < n * m ∧ n * m < 9007199254740992) : oQ (n * m) (k + j) v := by
  obtain ⟨s, c, q, e1, f1, z1⟩ := hx.fin
  obtain ⟨t, d, r, e2, f2, z2⟩ := hy.fin
  obtain ⟨h1, h2, h3⟩ := product_units f1 f2
  have hv : val64 v = roundRatio b64 (s != t) (c * d) 1 (q + r) := by rw [e]; show val64 (Core.dmul x y) = _; rw [val64_dmul, e1, e2, h1]; rfl
  rw [qmin_b64] at h2
  refine oRnd (M := 2148) hv (by decide) (by omega) (by omega) hk b ?_
  have h4 : signed (s != t) (inUnits (c * d) (q + r) (2 * b64.qmin)) = (n * m) * ((2 ^ (2148 - (k + j)) : Nat) : Int) := by
    rw [h3, signed_xor]
    show signed s (inUnits c q b64.qmin) * signed t (inUnits d r b64.qmin) = _
    rw [z1, z2, show 2148 - (k + j) = (1074 - k) + (1074 - j) by omega, Nat.pow_add, Int.natCast_mul]
    simp only [Int.mul_assoc, Int.mul_left_comm, Int.mul_comm]
  rw [Nat.one_mul, ← h4]; unfold inUnits; rw [qmin_b64]; congr 3
theorem oSgnPos {t : Bool} {D : Nat} (h : 0 < signed t D) : t = false := by
  cases t with
  | false => rfl
  | true => simp only [signed, if_true] at h; omega
theorem oSgnNat {s : Bool} {C P : Nat} {n : Int} (hP : 0 < P) (h : signed s C = n * (P : Int)) : signed s n.natAbs = n := by
  have hA := oAbs h rfl
  rw [hA] at h
  exact oSgn hP h
/-- a quotient of two such is the rounded ratio -/
theorem oQ.div {n m : Int} {k j : Nat} {x y v : UInt64} (hx : oQ n k x) (hy : oQ m j y) (e : v = FP.ddiv x y) (hm : 0 < m) (hk : k ≤ 1074) (hj : j ≤ 1074) : ∃ s, val64 v = roundRatio b64 s (n.natAbs * 2 ^ j) (m.natAbs * 2 ^ k) 0 ∧ signed s n.natAbs = n := by
  obtain ⟨s, c, q, e1, f1, z1⟩ := hx.fin
  obtain ⟨t, d, r, e2, f2, z2⟩ := hy.fin
  have q1 : b64.qmin ≤ q := f1.2.1
  have q2 : b64.qmin ≤ r := f2.2.1
  rw [qmin_b64] at q1 q2
  have ht : t = false := oSgnPos (by rw [z2]; exact Int.mul_pos hm (by have := Nat.two_pow_pos (1074 - j); omega))
  have hc := oAbs z1 rfl
  have hd := oAbs z2 rfl
  have hd0 : d ≠ 0 := by
    rintro rfl
    have : 0 < m.natAbs * 2 ^ (1074 - j) := Nat.mul_pos (by omega) (Nat.two_pow_pos _)
    unfold inUnits at hd
    rw [Nat.zero_mul] at hd
    omega
  have hv : val64 v = roundRatio b64 s c d (q - r) := by
    rw [e]; show val64 (Core.ddiv x y) = _
    rw [val64_ddiv, e1, e2, ht]
    show (if d = 0 then _ else roundRatio b64 (s != false) c d (q - r)) = _
    rw [if_neg hd0]; cases s <;> rfl
  refine ⟨s, ?_, oSgnNat (Nat.two_pow_pos _) z1⟩
  rw [hv]
  refine roundRatio_congr (by omega) (Nat.mul_pos (by omega) (Nat.two_pow_pos _)) ?_
  unfold inUnits at hc hd
  rw [qmin_b64] at hc hd
  have key : (c * (m.natAbs * 2 ^ k)) * 2 ^ (q - -1074).toNat = (n.natAbs * 2 ^ j * d) * 2 ^ (r - -1074).toNat := by
    have a1 : c * (m.natAbs * 2 ^ k) * 2 ^ (q - -1074).toNat = (c * 2 ^ (q - -1074).toNat) * (m.natAbs * 2 ^ k) := by
      simp only [Nat.mul_assoc, Nat.mul_left_comm, Nat.mul_comm]
    have a2 : n.natAbs * 2 ^ j * d * 2 ^ (r - -1074).toNat = (d * 2 ^ (r - -1074).toNat) * (n.natAbs * 2 ^ j) := by
      simp only [Nat.mul_assoc, Nat.mul_left_comm, Nat.mul_comm]
    rw [a1, a2, hc, hd]
    have a3 : 2 ^ (1074 - k) * 2 ^ k = 2 ^ (1074 - j) * 2 ^ j := by
      rw [← Nat.pow_add, ← Nat.pow_add]; congr 1; omega
    calc n.natAbs * 2 ^ (1074 - k) * (m.natAbs * 2 ^ k) = (n.natAbs * m.natAbs) * (2 ^ (1074 - k) * 2 ^ k) := Nat.mul_mul_mul_comm _ _ _ _
      _ = (m.natAbs * n.natAbs) * (2 ^ (1074 - j) * 2 ^ j) := by rw [a3, Nat.mul_comm n.natAbs]
      _ = m.natAbs * 2 ^ (1074 - j) * (n.natAbs * 2 ^ j) := (Nat.mul_mul_mul_comm _ _ _ _).symm
  have c := oPowCancel key
  rw [show (q - r - 0).toNat = (q - -1074).toNat - (r - -1074).toNat by omega, show (0 - (q - r)).toNat = (r - -1074).toNat - (q - -1074).toNat by omega]
  exact c
/-- a quotient that is r / 2^i -/
theorem oQ.divx {n m : Int} {k j : Nat} {x y v : UInt64} (hx : oQ n k x) (hy : oQ m j y) (e : v = FP.ddiv x y) (r : Int) (i : Nat) (hm : 0 < m) (hk : k ≤ 1074) (hj : j ≤ 1074) (hi : i ≤ 1074) (b : -9007199254740992 < r ∧ r < 9007199254740992) (h : n * ((2 ^ j : Nat) : Int) * ((2 ^ i : Nat) : Int) = r * (m * ((2 ^ k : Nat) : Int))) : oQ r i v := by
  obtain ⟨s, hv, hs⟩ := hx.div hy e hm hk hj
  refine oRnd (M := i) hv (Nat.mul_pos (by omega) (Nat.two_pow_pos _)) (by omega) (Nat.le_refl _) hi b ?_
  rw [show ((0 : Int) + (i : Int)).toNat = i by omega, Nat.sub_self, Nat.pow_zero, Nat.mul_one, signed_mul, signed_mul, hs, h, Int.natCast_mul, Int.natAbs_of_nonneg (by omega)]
/-- two quotients of the same value -/
theorem oQ.diveq {n m n' m' : Int} {k j k' j' : Nat} {x y v x' y' v' : UInt64} (hx : oQ n k x) (hy : oQ m j y) (e : v = FP.ddiv x y) (hx' : oQ n' k' x') (hy' : oQ m' j' y') (e' : v' = FP.ddiv x' y') (hn : 0 < n) (hn' : 0 < n') (hm : 0 < m) (hm' : 0 < m') (hk : k ≤ 1074) (hj : j ≤ 1074) (hk2 : k' ≤ 1074) (hj2 : j' ≤ 1074)
    (h : n * ((2 ^ j : Nat) : Int) * (m' * ((2 ^ k' : Nat) : Int)) = n' * ((2 ^ j' : Nat) : Int) * (m * ((2 ^ k : Nat) : Int))) : v = v' := by
  obtain ⟨s, hv, hs⟩ := hx.div hy e hm hk hj
  obtain ⟨s', hv', hs'⟩ := hx'.div hy' e' hm' hk2 hj2
  have s0 : s = false := oSgnPos (by rw [hs]; exact hn)
  have s1 : s' = false := oSgnPos (by rw [hs']; exact hn')
  have ev : val64 v = val64 v' := by
    rw [hv, hv', s0, s1]
    refine roundRatio_congr (Nat.mul_pos (by omega) (Nat.two_pow_pos _)) (Nat.mul_pos (by omega) (Nat.two_pow_pos _)) ?_
    show _ * 2 ^ 0 = _ * 2 ^ 0
    rw [Nat.pow_zero, Nat.mul_one, Nat.mul_one]
    have := congrArg Int.natAbs h
    simp only [Int.natAbs_mul, Int.natAbs_natCast] at this
    exact this
  have nn : val64 v ≠ .nan := by rw [hv]; exact roundRatio_ne_nan _ _ _ _ _
  exact val64_inj nn ev
/-- the same value, written finer -/
theorem oQ.up {n N : Int} {k k' : Nat} {x : UInt64} (h : oQ n k x) (j : Nat) (hk : k + j = k') (hk2 : k' ≤ 1074) (hN : n * ((2 ^ j : Nat) : Int) = N) : oQ N k' x := by
  refine ⟨h.1, h.2.trans ?_⟩
  rw [← hN, Int.mul_assoc, ← Int.natCast_mul, ← Nat.pow_add, show j + (1074 - k') = 1074 - k by omega]
theorem oQ.cast {n N : Int} {k k' : Nat} {x : UInt64} (h : oQ n k x) (hk : k = k') (hN : n = N) : oQ N k' x := by subst hk hN; exact h
theorem oQ.divnn {n m : Int} {k j : Nat} {x y v : UInt64} (hx : oQ n k x) (hy : oQ m j y) (e : v = FP.ddiv x y) (hm : 0 < m) (hk : k ≤ 1074) (hj : j ≤ 1074) : Jvm.Free.Fl.NoNaN64 v := by
  obtain ⟨s, hv, -⟩ := hx.div hy e hm hk hj
  exact Jvm.Free.Fl.val64_no.mpr (by rw [hv]; exact roundRatio_ne_nan _ _ _ _ _)
/-- two quotients of the same value, compared -/
theorem oQ.divcmp {n m n' m' : Int} {k j k' j' : Nat} {x y v x' y' v' : UInt64} {o : CmpOp} {r : Int32} (hx : oQ n k x) (hy : oQ m j y) (e : v = FP.ddiv x y) (hx' : oQ n' k' x') (hy' : oQ m' j' y') (e' : v' = FP.ddiv x' y') (er : r = cmpValue (FP.dcmp v v') o) (hm : 0 < m) (hm' : 0 < m') (hk : k ≤ 1074) (hj : j ≤ 1074) (hk2 : k' ≤ 1074) (hj2 : j' ≤ 1074)
    (h : n * ((2 ^ j : Nat) : Int) * (m' * ((2 ^ k' : Nat) : Int)) = n' * ((2 ^ j' : Nat) : Int) * (m * ((2 ^ k : Nat) : Int))) : r = 0 := by
  have P (a : Nat) : (0 : Int) < ((2 ^ a : Nat) : Int) := by have := Nat.two_pow_pos a; omega
  obtain ⟨s, hv, hs⟩ := hx.div hy e hm hk hj
  obtain ⟨s', hv', hs'⟩ := hx'.div hy' e' hm' hk2 hj2
  have nn : val64 v ≠ .nan := by rw [hv]; exact roundRatio_ne_nan _ _ _ _ _
  have nn' : val64 v' ≠ .nan := by rw [hv']; exact roundRatio_ne_nan _ _ _ _ _
  have pos {a b c : Int} (ha : 0 < a) (hb : 0 < b) (hc : 0 < c) : 0 < a * (b * c) := Int.mul_pos ha (Int.mul_pos hb hc)
  by_cases ss : s = s'
  · have ev : val64 v = val64 v' := by
      rw [hv, hv', ss]
      refine roundRatio_congr (Nat.mul_pos (by omega) (Nat.two_pow_pos _)) (Nat.mul_pos (by omega) (Nat.two_pow_pos _)) ?_
      show _ * 2 ^ 0 = _ * 2 ^ 0
      rw [Nat.pow_zero, Nat.mul_one, Nat.mul_one]
      have := congrArg Int.natAbs h
      simp only [Int.natAbs_mul, Int.natAbs_natCast] at this
      exact this
    exact oSame er (val64_inj nn ev) (Jvm.Free.Fl.val64_no.mpr nn)
  · have z0 : n = 0 := by
      rw [Int.mul_assoc, Int.mul_assoc] at h
      have p1 := pos (P j) hm' (P k')
      have p2 := pos (P j') hm (P k)
      generalize ((2 ^ j : Nat) : Int) * (m' * ((2 ^ k' : Nat) : Int)) = a at h p1
      generalize ((2 ^ j' : Nat) : Int) * (m * ((2 ^ k : Nat) : Int)) = b at h p2
      rcases Int.lt_trichotomy n 0 with q | q | q
      · have h1 : n * a < 0 := Int.mul_neg_of_neg_of_pos q p1
        have h2 : n' < 0 := Int.not_le.mp fun w => by have := Int.mul_nonneg w (Int.le_of_lt p2); omega
        exfalso; cases s <;> cases s' <;> simp only [signed, if_true, Bool.false_eq_true, if_false, not_true_eq_false] at hs hs' ss <;> omega
      · exact q
      · have h1 : 0 < n * a := Int.mul_pos q p1
        have h2 : 0 < n' := Int.not_le.mp fun w => by have := Int.mul_nonneg (show 0 ≤ -n' by omega) (Int.le_of_lt p2); rw [Int.neg_mul] at this; omega
        exfalso; cases s <;> cases s' <;> simp only [signed, if_true, Bool.false_eq_true, if_false, not_true_eq_false] at hs hs' ss <;> omega
    have z1 : n' = 0 := by
      rw [z0, Int.zero_mul, Int.zero_mul, Int.mul_assoc] at h
      rcases Int.mul_eq_zero.mp h.symm with q | q
      · exact q
      · have := pos (P j') hm (P k); omega
    have q1 : oQ 0 0 v := hx.divx hy e 0 0 hm hk hj (by omega) (by omega) (by rw [z0]; simp)
    have q2 : oQ 0 0 v' := hx'.divx hy' e' 0 0 hm' hk2 hj2 (by omega) (by omega) (by rw [z1]; simp)
    exact (oCmpZ q1.zv q2.zv er).2.1.mpr rfl
theorem oQ1 : oQ 4 2 4607182418800017408 := (oQ.int (oDK 1 (by decide +kernel) (by decide))).up 2 rfl (by decide) rfl
theorem oQ.fin64 {n : Int} {k : Nat} {x : UInt64} (h : oQ n k x) : Jvm.Free.Fl.Fin64 x := Jvm.Free.Fl.fin64_core.mpr h.1
theorem oQ0 (k : Nat) : oQ 0 k 0 := ⟨(oQ.int (oDK 0 (by decide +kernel) (by decide))).1, by rw [(oQ.int (oDK 0 (by decide +kernel) (by decide) : DInt 0 0)).2]; simp⟩
/-- compared at the same fineness -/
theorem oQ.cmp {n m : Int} {k : Nat} {x y : UInt64} {o : CmpOp} {v : Int32} (hx : oQ n k x) (hy : oQ m k y) (h : v = cmpValue (FP.dcmp x y) o) : (v < 0 ↔ n < m) ∧ (v = 0 ↔ n = m) ∧ (0 < v ↔ m < n) := by
  have P : (0 : Int) < ((2 ^ (1074 - k) : Nat) : Int) := by have := Nat.two_pow_pos (1074 - k); omega
  have r := oCmpZ hx.zv hy.zv h
  generalize ((2 ^ (1074 - k) : Nat) : Int) = a at P r
  have L (i j : Int) : i * a < j * a ↔ i < j := Int.mul_lt_mul_right P
  have E (i j : Int) : i * a = j * a ↔ i = j := ⟨fun q => Int.eq_of_mul_eq_mul_right (by omega) q, fun q => by rw [q]⟩
  rw [L, E, L] at r
  exact r
/-! bounds: rounding is monotone. All at the finest scale: oQ z 1074 -/
theorem oQ.fine {n : Int} {k : Nat} {x : UInt64} (h : oQ n k x) (hk : k ≤ 1074) : oQ (n * ((2 ^ (1074 - k) : Nat) : Int)) 1074 x := h.up (1074 - k) (by omega) (Nat.le_refl _) rfl
theorem oQ.z {z : Int} {x : UInt64} (h : oQ z 1074 x) : zval b64 (val64 x) = z := by
  rw [h.2, Nat.sub_self, Nat.pow_zero]; omega
theorem oQ.of_z {z : Int} {x : UInt64} (h : DFin x) (e : zval b64 (val64 x) = z) : oQ z 1074 x := ⟨h, by rw [e, Nat.sub_self, Nat.pow_zero]; omega⟩
theorem oFinLe {v w : UInt64} (hn : val64 v ≠ .nan) (h0 : 0 ≤ zval b64 (val64 v)) (hw : DFin w) (h : zval b64 (val64 v) ≤ zval b64 (val64 w)) : DFin v := by
  obtain ⟨t, d, r, e⟩ := hw
  have f := val64_fits w
  rw [e] at f h
  have lt : zmag b64 (Datum.fin t d r) < b64.tails * 2 ^ (b64.exps - 2) := zmag_lt_top good_b64 f
  cases ev : val64 v with
  | nan => exact absurd ev hn
  | fin s c q => exact ⟨s, c, q, ev⟩
  | inf s =>
    rw [ev] at h h0
    exfalso
    have hz : zval b64 (Datum.fin t d r) = signed t (zmag b64 (Datum.fin t d r)) := rfl
    have hi : zval b64 (Datum.inf s) = signed s (b64.tails * 2 ^ (b64.exps - 2)) := rfl
    rw [hz, hi] at h
    rw [hi] at h0
    generalize zmag b64 (Datum.fin t d r) = a at *
    generalize b64.tails * 2 ^ (b64.exps - 2) = b at *
    cases s <;> cases t <;> simp only [signed, if_true, Bool.false_eq_true, if_false] at h h0 <;> omega
theorem oQ.addB {a b c d : Int} {x y v lo hi : UInt64} (hx : oQ a 1074 x) (hy : oQ b 1074 y) (e : v = FP.dadd x y) (hlo : oQ c 1074 lo) (hhi : oQ d 1074 hi) (h0 : 0 ≤ c) (h1 : c ≤ a + b) (h2 : a + b ≤ d) : ∃ z, oQ z 1074 v ∧ c ≤ z ∧ z ≤ d := by
  obtain ⟨s, c1, q, e1, f1, z1⟩ := hx.fin
  obtain ⟨t, d1, r, e2, f2, z2⟩ := hy.fin
  obtain ⟨sg, C, E, h3, h4, h5⟩ := sum_units f1 f2
  rw [Nat.sub_self, Nat.pow_zero] at z1 z2
  have hv : val64 v = Core.round b64 (.fin sg C E) := by rw [e]; show val64 (Core.dadd x y) = _; rw [val64_dadd, e1, e2, h3]
  have h6 : signed sg (inUnits C E b64.qmin) = a + b := by
    rw [h5]; show signed s (inUnits c1 q b64.qmin) + signed t (inUnits d1 r b64.qmin) = _; rw [z1, z2]; omega
  have up := zval_round_le good_b64 (s := sg) (c := C) (q := E) (e0 := b64.qmin) (val64_fits hi) hhi.1.ne_nan (Int.le_refl _) h4 (by rw [h6, Int.sub_self]; show _ ≤ _ * 1; rw [hhi.z]; omega)
  have dn := zval_round_ge good_b64 (s := sg) (c := C) (q := E) (e0 := b64.qmin) (val64_fits lo) hlo.1.ne_nan (Int.le_refl _) h4 (by rw [h6, Int.sub_self]; show _ * 1 ≤ _; rw [hlo.z]; omega)
  rw [← hv] at up dn
  have nn : val64 v ≠ .nan := by rw [hv]; exact fun q => Datum.noConfusion (round_nan.mp q)
  have hF : DFin v := oFinLe nn (by rw [hlo.z] at dn; omega) hhi.1 up
  rw [hlo.z] at dn
  rw [hhi.z] at up
  exact ⟨_, oQ.of_z hF rfl, dn, up⟩
theorem oQ.divB {a b c d : Int} {x y v lo hi : UInt64} (hx : oQ a 1074 x) (hy : oQ b 1074 y) (e : v = FP.ddiv x y) (hlo : oQ c 1074 lo) (hhi : oQ d 1074 hi) (h0 : 0 ≤ c) (ha : 0 ≤ a) (hb : 0 < b) (h1 : c * b ≤ a * ((2 ^ 1074 : Nat) : Int)) (h2 : a * ((2 ^ 1074 : Nat) : Int) ≤ d * b) : ∃ z, oQ z 1074 v ∧ c ≤ z ∧ z ≤ d := by
  obtain ⟨s, hv, hs⟩ := hx.div hy e hb (Nat.le_refl _) (Nat.le_refl _)
  have P : 0 < 2 ^ 1074 := Nat.two_pow_pos 1074
  rcases Int.lt_or_eq_of_le ha with pa | pa
  · have s0 : s = false := oSgnPos (by rw [hs]; exact pa)
    subst s0
    have hd : 0 ≤ d := Int.not_lt.mp fun w => by
      have := Int.mul_neg_of_neg_of_pos w hb
      have := Int.mul_nonneg ha (Int.natCast_nonneg (2 ^ 1074)); omega
    have zlo : zmag b64 (val64 lo) = c.natAbs := by
      have := congrArg Int.natAbs hlo.z
      unfold zval at this; rw [natAbs_signed] at this; exact this
    have zhi : zmag b64 (val64 hi) = d.natAbs := by
      have := congrArg Int.natAbs hhi.z
      unfold zval at this; rw [natAbs_signed] at this; exact this
    have B0 : 0 < b.natAbs * 2 ^ 1074 := Nat.mul_pos (by omega) P
    have i0 : ∀ A : Nat, inUnits A 0 b64.qmin = A * 2 ^ 1074 := fun A => by unfold inUnits; rw [qmin_b64]; rfl
    have k1 : c.natAbs * b.natAbs ≤ a.natAbs * 2 ^ 1074 := by
      have : ((c.natAbs * b.natAbs : Nat) : Int) ≤ ((a.natAbs * 2 ^ 1074 : Nat) : Int) := by
        rw [Int.natCast_mul, Int.natCast_mul, Int.natAbs_of_nonneg h0, Int.natAbs_of_nonneg ha, Int.natAbs_of_nonneg (Int.le_of_lt hb)]; exact h1
      exact Int.ofNat_le.mp this
    have k2 : a.natAbs * 2 ^ 1074 ≤ d.natAbs * b.natAbs := by
      have : ((a.natAbs * 2 ^ 1074 : Nat) : Int) ≤ ((d.natAbs * b.natAbs : Nat) : Int) := by
        rw [Int.natCast_mul, Int.natCast_mul, Int.natAbs_of_nonneg hd, Int.natAbs_of_nonneg ha, Int.natAbs_of_nonneg (Int.le_of_lt hb)]; exact h2
      exact Int.ofNat_le.mp this
    have up := zmag_roundRatio_le good_b64 (s := false) (A := a.natAbs * 2 ^ 1074) (e := 0) (e0 := b64.qmin) B0 (val64_fits hi) hhi.1.ne_nan (Int.le_refl _) (by rw [qmin_b64]; decide) (by rw [i0, zhi, Int.sub_self]; show _ ≤ _ * 1 * _; rw [Nat.mul_one, ← Nat.mul_assoc]; exact Nat.mul_le_mul_right _ k2)
    have dn := zmag_roundRatio_ge good_b64 (s := false) (A := a.natAbs * 2 ^ 1074) (e := 0) (e0 := b64.qmin) B0 (val64_fits lo) (Int.le_refl _) (by rw [qmin_b64]; decide) (by rw [i0, zlo, Int.sub_self]; show _ * 1 * _ ≤ _; rw [Nat.mul_one, ← Nat.mul_assoc]; exact Nat.mul_le_mul_right _ k1)
    rw [← hv] at up dn
    rw [zhi] at up
    rw [zlo] at dn
    have nn : val64 v ≠ .nan := by rw [hv]; exact roundRatio_ne_nan _ _ _ _ _
    have zv : zval b64 (val64 v) = (zmag b64 (val64 v) : Int) := by
      unfold zval; rw [hv, sgn_roundRatio]; rfl
    have hF : DFin v := oFinLe nn (by rw [zv]; omega) hhi.1 (by rw [zv, hhi.z]; omega)
    exact ⟨_, oQ.of_z hF rfl, by rw [zv]; omega, by rw [zv]; omega⟩
  · subst pa
    have q0 : oQ 0 1074 v := hx.divx hy e 0 1074 hb (Nat.le_refl _) (Nat.le_refl _) (Nat.le_refl _) (by omega) (by simp)
    refine ⟨0, q0, ?_, ?_⟩
    · rw [Int.zero_mul] at h1
      exact Int.not_lt.mp fun w => by have := Int.mul_pos w hb; omega
    · rw [Int.zero_mul] at h2
      exact Int.not_lt.mp fun w => by have := Int.mul_neg_of_neg_of_pos w hb; omega
/-- one bound alone, of a sum that is finite -/
theorem oQ.addLo {a b c : Int} {x y v lo : UInt64} (hx : oQ a 1074 x) (hy : oQ b 1074 y) (e : v = FP.dadd x y) (hF : DFin v) (hlo : oQ c 1074 lo) (h1 : c ≤ a + b) : ∃ z, oQ z 1074 v ∧ c ≤ z := by
  obtain ⟨s, c1, q, e1, f1, z1⟩ := hx.fin
  obtain ⟨t, d1, r, e2, f2, z2⟩ := hy.fin
  obtain ⟨sg, C, E, h3, h4, h5⟩ := sum_units f1 f2
  rw [Nat.sub_self, Nat.pow_zero] at z1 z2
  have hv : val64 v = Core.round b64 (.fin sg C E) := by rw [e]; show val64 (Core.dadd x y) = _; rw [val64_dadd, e1, e2, h3]
  have h6 : signed sg (inUnits C E b64.qmin) = a + b := by
    rw [h5]; show signed s (inUnits c1 q b64.qmin) + signed t (inUnits d1 r b64.qmin) = _; rw [z1, z2]; omega
  have dn := zval_round_ge good_b64 (s := sg) (c := C) (q := E) (e0 := b64.qmin) (val64_fits lo) hlo.1.ne_nan (Int.le_refl _) h4 (by rw [h6, Int.sub_self]; show _ * 1 ≤ _; rw [hlo.z]; omega)
  rw [← hv] at dn
  rw [hlo.z] at dn
  exact ⟨_, oQ.of_z hF rfl, dn⟩
/-- a number over infinity is nought -/
theorem oQ.divinf {n : Int} {k : Nat} {x v : UInt64} (hx : oQ n k x) (e : v = FP.ddiv x 9218868437227405312) : oQ 0 0 v := by
  obtain ⟨s, c, q, e1, f1, z1⟩ := hx.fin
  have hi : val64 9218868437227405312 = .inf false := by decide +kernel
  have hv : val64 v = .fin (s != false) 0 b64.qmin := by rw [e]; show val64 (Core.ddiv x _) = _; rw [val64_ddiv, e1, hi]; rfl
  refine ⟨⟨_, _, _, hv⟩, ?_⟩
  rw [hv]; show signed (s != false) (inUnits 0 b64.qmin b64.qmin) = _
  unfold inUnits; rw [Nat.zero_mul, Int.zero_mul]; cases s <;> rfl
/-- times a power of two: exact, however great -/
theorem oQ.mulpow {n m : Int} {j : Nat} {x y v : UInt64} (hx : oQ n 0 x) (hy : oQ m 0 y) (e : v = FP.dmul x y) (hm : ((2 ^ j : Nat) : Int) = m) (hj : j ≤ 900) (b : -9007199254740992 < n ∧ n < 9007199254740992) : oQ (n * m) 0 v := by
  obtain ⟨s, c, q, e1, f1, z1⟩ := hx.fin
  obtain ⟨t, d, r, e2, f2, z2⟩ := hy.fin
  obtain ⟨h1, h2, h3⟩ := product_units f1 f2
  have hv : val64 v = roundRatio b64 (s != t) (c * d) 1 (q + r) := by rw [e]; show val64 (Core.dmul x y) = _; rw [val64_dmul, e1, e2, h1]; rfl
  have P := Nat.two_pow_pos (1074 - 0)
  have ht : t = false := oSgnPos (by rw [z2, ← hm]; have := Nat.two_pow_pos j; exact Int.mul_pos (by omega) (by omega))
  have hc := oAbs z1 rfl
  have hd := oAbs z2 rfl
  rw [qmin_b64] at h2 h3
  have hms : m.natAbs = 2 ^ j := by rw [← hm, Int.natAbs_natCast]
  have hr : val64 v = Core.round b64 (.fin s n.natAbs (j : Int)) := by
    rw [hv, ht]
    show roundRatio b64 (s != false) _ _ _ = roundRatio b64 s n.natAbs 1 (j : Int)
    rw [show (s != false) = s by cases s <;> rfl]
    refine roundRatio_congr (by decide) (by decide) ?_
    have key : c * d * 2 ^ (q + r - 2 * (-1074)).toNat = n.natAbs * 2 ^ (j + 2148) := by
      have h3' : inUnits (c * d) (q + r) (2 * (-1074)) = inUnits c q b64.qmin * inUnits d r b64.qmin := h3
      rw [hc, hd, hms] at h3'
      unfold inUnits at h3'
      rw [h3', Nat.pow_add, show 2148 = (1074 - 0) + (1074 - 0) by rfl, Nat.pow_add]
      simp only [Nat.mul_assoc, Nat.mul_left_comm, Nat.mul_comm]
    have c2 := oPowCancel key
    rw [show (q + r - (j : Int)).toNat = (q + r - 2 * (-1074)).toNat - (j + 2148) by omega, show ((j : Int) - (q + r)).toNat = (j + 2148) - (q + r - 2 * (-1074)).toNat by omega, Nat.mul_one, Nat.mul_one]
    exact c2
  obtain ⟨c', q', g1, g2⟩ := round_exact good_b64 s (c := n.natAbs) (q := (j : Int)) (by show n.natAbs < 2 ^ 53; omega) (by rw [qmin_b64]; omega) (by rw [show b64.qmax = 971 by decide]; omega)
  rw [g1] at hr
  refine ⟨⟨_, _, _, hr⟩, ?_⟩
  rw [hr]; show signed s (inUnits c' q' b64.qmin) = _
  have sn := oSgnNat P z1
  rw [g2]; unfold inUnits
  rw [qmin_b64, signed_mul, sn, show ((j : Int) - -1074).toNat = j + (1074 - 0) by omega, Nat.pow_add, Int.natCast_mul, hm, Int.mul_assoc]
/-! whole numbers -/
theorem oMB {a b A B : Int} (ha : 0 ≤ a ∧ a ≤ A) (hb : 0 ≤ b ∧ b ≤ B) : 0 ≤ a * b ∧ a * b ≤ A * B := ⟨Int.mul_nonneg ha.1 hb.1, Int.mul_le_mul ha.2 hb.2 hb.1 (by omega)⟩
theorem oMBs {a b A B : Int} (ha : -A ≤ a ∧ a ≤ A) (hb : 0 ≤ b ∧ b ≤ B) : -(A * B) ≤ a * b ∧ a * b ≤ A * B := by
  have h1 : a * b ≤ A * B := Int.le_trans (Int.mul_le_mul_of_nonneg_right ha.2 hb.1) (Int.mul_le_mul_of_nonneg_left hb.2 (by omega))
  have h2 : -a * b ≤ A * B := Int.le_trans (Int.mul_le_mul_of_nonneg_right (show -a ≤ A by omega) hb.1) (Int.mul_le_mul_of_nonneg_left hb.2 (by omega))
  rw [Int.neg_mul] at h2
  omega
theorem oUshr1 {x v : Int32} (e : v = XT.ushr x 1) : 0 ≤ v.toInt ∧ v.toInt ≤ 2147483647 := by
  have h := c_iushr x 1 1 (by decide) (by decide)
  rw [e]; unfold XT.ushr; rw [h]; omega
theorem oLandMax {x v : Int64} (e : v = x &&& 9223372036854775807) : 0 ≤ v.toInt := by
  have h : v.toBitVec.msb = false := by
    rw [e, Int64.toBitVec_and, BitVec.msb_and]
    rw [show (9223372036854775807 : Int64).toBitVec.msb = false by decide, Bool.and_false]
  rw [← Int64.toInt_toBitVec, BitVec.toInt_eq_toNat_of_msb h]
  exact Int.natCast_nonneg _
theorem oShr21 {x v : Int32} (e : v = x >>> ((21 : Int32) &&& 31)) : -1024 ≤ v.toInt ∧ v.toInt ≤ 1023 := by
  have h := c_ishr x 21 21 (by decide)
  have b := oB32 x
  rw [e, h]; omega
theorem oShlI {z v : Int32} {E : Nat} (hz : z.toInt = (E : Int)) (hE : E ≤ 20) (e : v = (1 : Int32) <<< (z &&& 31)) : v.toInt = ((2 ^ E : Nat) : Int) := by
  have h : z = Int32.ofNat E := oEq32.mpr (by rw [hz, Int32.toInt_ofNat_of_lt (by omega)])
  have D : ∀ E : Fin 21, ((1 : Int32) <<< ((Int32.ofNat E.val) &&& 31)).toInt = ((2 ^ E.val : Nat) : Int) := by decide
  rw [e, h]; exact D ⟨E, by omega⟩
theorem oShlL {z : Int32} {v : Int64} {E : Nat} (hz : z.toInt = (E : Int)) (hE : E ≤ 40) (e : v = (1 : Int64) <<< (z.toInt64 &&& 63)) : v.toInt = ((2 ^ E : Nat) : Int) := by
  have h : z = Int32.ofNat E := oEq32.mpr (by rw [hz, Int32.toInt_ofNat_of_lt (by omega)])
  have D : ∀ E : Fin 41, ((1 : Int64) <<< ((Int32.ofNat E.val).toInt64 &&& 63)).toInt = ((2 ^ E.val : Nat) : Int) := by decide
  rw [e, h]; exact D ⟨E, by omega⟩
/-- a local that is not read any more: nothing or one word -/
def oDead (s : Slot) : Prop := s = .unset ∨ ∃ z : Int32, s = .val (.int z)
theorem oStoreDead {l l' : Array Slot} {i : Nat} {v : Value} {s : Slot} (h : l[i]? = some s) (hd : oDead s) (hs : storeSelf l i v = some l') : storeLocals l i v = some l' := by
  unfold storeLocals
  rcases hd with rfl | ⟨z, rfl⟩ <;> rw [h] <;> exact hs
end Dy
section Qw
open Jvm.FP Jvm.FP.Core
def oU : Int := ((2 ^ 1074 : Nat) : Int)
theorem oU0 : 0 < oU := by have := Nat.two_pow_pos 1074; unfold oU; omega
theorem oQ.u {n : Int} {x : UInt64} (h : oQ n 0 x) : oQ (n * oU) 1074 x := h.up 1074 rfl (Nat.le_refl _) rfl
theorem oQone : oQ 1 0 4607182418800017408 := oQ.int (oDK 1 (by decide +kernel) (by decide))
theorem oQoneU : oQ oU 1074 4607182418800017408 := oQone.u.cast rfl (Int.one_mul _)
theorem oQ.divU {a b z d : Int} {x y v lo hi : UInt64} (hx : oQ a 1074 x) (hy : oQ b 1074 y) (e : v = FP.ddiv x y) (hlo : oQ z 1074 lo) (hhi : oQ d 1074 hi) (h0 : 0 ≤ z) (ha : 0 ≤ a) (hb : 0 < b) (h1 : z * b ≤ a * oU) (h2 : a * oU ≤ d * b) : ∃ r, oQ r 1074 v ∧ z ≤ r ∧ r ≤ d := hx.divB hy e hlo hhi h0 ha hb h1 h2
theorem oL2DU {a : Int64} {v : UInt64} (e : v = FP.l2d a) (h : 0 ≤ a.toInt) : ∃ z, oQ z 1074 v ∧ 0 ≤ z := by
  have g : zval b64 (val64 0) ≤ zval b64 (val64 (FP.l2d a)) := l2d_zval_ge (n := a) (V := 0) (by decide +kernel) (by rw [(oQ0 1074).z]; exact Int.mul_nonneg h (Int.natCast_nonneg _))
  rw [(oQ0 1074).z] at g
  exact ⟨_, oQ.of_z (e ▸ l2d_fin a) rfl, by rw [e]; exact g⟩
theorem oQ.to0 {k j : Nat} {x : UInt64} (h : oQ 0 k x) : oQ 0 j x := ⟨h.1, by rw [h.2, Int.zero_mul, Int.zero_mul]⟩
theorem oLe1 {n zt : Int} (hn : 0 ≤ n) (h : oU ≤ zt) : n * oU * oU ≤ n * oU * zt := Int.mul_le_mul_of_nonneg_left h (Int.mul_nonneg hn (Int.le_of_lt oU0))
theorem oLe2 {n zd : Int} (h : zd ≤ n * oU) : oU * zd ≤ n * oU * oU := by
  rw [Int.mul_comm (n * oU)]; exact Int.mul_le_mul_of_nonneg_left h (Int.le_of_lt oU0)
theorem oSplit (n : Int) : n * oU = oU + (n - 1) * oU := by rw [Int.sub_mul]; omega
theorem oOne {z n : Int} (h : n = 1) (a : oU ≤ z) (b : z ≤ n * oU) : z = oU := by subst h; omega
theorem oC1 {nQ nC : Int} {E : Nat} (h : ((2 ^ E : Nat) : Int) = nC) : (nQ - 1) * ((2 ^ 0 : Nat) : Int) * ((2 ^ E : Nat) : Int) = (nQ - 1) * (nC * ((2 ^ 0 : Nat) : Int)) := by
  rw [h]; show (nQ - 1) * 1 * nC = (nQ - 1) * (nC * 1); rw [Int.mul_one, Int.mul_one]
theorem oC2 {nQ nC M : Int} {E : Nat} (h : ((2 ^ E : Nat) : Int) = nC) (hM : nC + (nQ - 1) = M) : nQ * ((2 ^ E : Nat) : Int) * (M * ((2 ^ 0 : Nat) : Int)) = nQ * nC * ((2 ^ 0 : Nat) : Int) * ((nC + (nQ - 1)) * ((2 ^ 0 : Nat) : Int)) := by
  rw [h, hM]; show nQ * nC * (M * 1) = nQ * nC * 1 * (M * 1); rw [Int.mul_one (nQ * nC)]
end Qw
theorem d6_0 : decode jdk_31_method_11_code 0 = .ok (.aload_n 0, 1) := by decide +kernel
theorem d6_1 : decode jdk_31_method_11_code 1 = .ok (.ifnonnull 12, 3) := by decide +kernel
theorem d6_4 : decode jdk_31_method_11_code 4 = .ok (.new 84, 3) := by decide +kernel
theorem d6_7 : decode jdk_31_method_11_code 7 = .ok (.dup, 1) := by decide +kernel
theorem d6_8 : decode jdk_31_method_11_code 8 = .ok (.aload_n 1, 1) := by decide +kernel
theorem d6_9 : decode jdk_31_method_11_code 9 = .ok (.invokespecial 87, 3) := by decide +kernel
theorem d6_12 : decode jdk_31_method_11_code 12 = .ok (.athrow, 1) := by decide +kernel
theorem d6_13 : decode jdk_31_method_11_code 13 = .ok (.aload_n 0, 1) := by decide +kernel
theorem d6_14 : decode jdk_31_method_11_code 14 = .ok (.areturn, 1) := by decide +kernel
set_option maxRecDepth 65536 in
set_option maxHeartbeats 40000000 in
theorem own_rnn {l : Launch} {Z : State} {a0 : Array Value} {h0 : Heap} (hw : ∀ d ∈ tables_1, d.before a0 Z = true) {o1 o2 : Addr} {ds0 : oDs} :
    oCtr l Z h0 [] (⟨"java/util/Objects", "requireNonNull", "(Ljava/lang/Object;Ljava/lang/String;)Ljava/lang/Object;"⟩ : MethodName) jdk_31_method_11_code 2 (some (.object "java/lang/Object")) ({ frames := 0, cells := 0, slots := 0, locals := 0 } : Room) #[(.ref o1), (.ref o2)] ds0 (oVal fun w d => w = .ref o1 ∧ d = ds0) := by
  refine oCtr.of (Ls := #[.val (.ref o1), .val (.ref o2)]) (plainFor_of_name (by first | (simp [plainName, overriddenIn]; done) | decide +kernel)) (fun m => by first | (simp [entryFrame, mkF, argsToLocals, Value.category]; done) | rfl) ?_
  intro p e s m below meth c K
  refine oW.aloadN (pc' := 1) K d6_0 rfl rfl rfl ?_
  refine oW.ifnonnullYes (pc' := 13) K d6_1 (by decide) (by decide) ?_
  refine oW.aloadN (pc' := 14) K d6_13 rfl rfl rfl ?_
  exact oW.retA K rfl rfl rfl d6_14 (by decide) (by decide) ⟨_, rfl, rfl, rfl⟩
theorem d2_0 : decode prog_43_method_2_code 0 = .ok (.aload_n 0, 1) := by decide +kernel
theorem d2_1 : decode prog_43_method_2_code 1 = .ok (.invokespecial 15, 3) := by decide +kernel
theorem d2_4 : decode prog_43_method_2_code 4 = .ok (.dload_n 1, 1) := by decide +kernel
theorem d2_5 : decode prog_43_method_2_code 5 = .ok (.dconst 0, 1) := by decide +kernel
theorem d2_6 : decode prog_43_method_2_code 6 = .ok (.dcmp .l, 1) := by decide +kernel
theorem d2_7 : decode prog_43_method_2_code 7 = .ok (.ifCond .lt 10, 3) := by decide +kernel
theorem d2_10 : decode prog_43_method_2_code 10 = .ok (.dload_n 1, 1) := by decide +kernel
theorem d2_11 : decode prog_43_method_2_code 11 = .ok (.invokestatic 20, 3) := by decide +kernel
theorem d2_14 : decode prog_43_method_2_code 14 = .ok (.ifCond .eq 17, 3) := by decide +kernel
theorem d2_17 : decode prog_43_method_2_code 17 = .ok (.new 24, 3) := by decide +kernel
theorem d2_20 : decode prog_43_method_2_code 20 = .ok (.dup, 1) := by decide +kernel
theorem d2_21 : decode prog_43_method_2_code 21 = .ok (.dload_n 1, 1) := by decide +kernel
theorem d2_27 : decode prog_43_method_2_code 27 = .ok (.invokespecial 30, 3) := by decide +kernel
theorem d2_30 : decode prog_43_method_2_code 30 = .ok (.athrow, 1) := by decide +kernel
theorem d2_31 : decode prog_43_method_2_code 31 = .ok (.dload_n 3, 1) := by decide +kernel
theorem d2_32 : decode prog_43_method_2_code 32 = .ok (.dconst 0, 1) := by decide +kernel
theorem d2_33 : decode prog_43_method_2_code 33 = .ok (.dcmp .l, 1) := by decide +kernel
theorem d2_34 : decode prog_43_method_2_code 34 = .ok (.ifCond .lt 9, 3) := by decide +kernel
theorem d2_37 : decode prog_43_method_2_code 37 = .ok (.dload_n 3, 1) := by decide +kernel
theorem d2_38 : decode prog_43_method_2_code 38 = .ok (.dconst 1, 1) := by decide +kernel
theorem d2_39 : decode prog_43_method_2_code 39 = .ok (.dcmp .g, 1) := by decide +kernel
theorem d2_40 : decode prog_43_method_2_code 40 = .ok (.ifCond .le 17, 3) := by decide +kernel
theorem d2_43 : decode prog_43_method_2_code 43 = .ok (.new 24, 3) := by decide +kernel
theorem d2_46 : decode prog_43_method_2_code 46 = .ok (.dup, 1) := by decide +kernel
theorem d2_47 : decode prog_43_method_2_code 47 = .ok (.dload_n 3, 1) := by decide +kernel
theorem d2_53 : decode prog_43_method_2_code 53 = .ok (.invokespecial 30, 3) := by decide +kernel
theorem d2_56 : decode prog_43_method_2_code 56 = .ok (.athrow, 1) := by decide +kernel
theorem d2_57 : decode prog_43_method_2_code 57 = .ok (.dload 6, 2) := by decide +kernel
theorem d2_59 : decode prog_43_method_2_code 59 = .ok (.dconst 0, 1) := by decide +kernel
theorem d2_60 : decode prog_43_method_2_code 60 = .ok (.dcmp .l, 1) := by decide +kernel
theorem d2_61 : decode prog_43_method_2_code 61 = .ok (.ifCond .ge 18, 3) := by decide +kernel
theorem d2_64 : decode prog_43_method_2_code 64 = .ok (.new 24, 3) := by decide +kernel
theorem d2_67 : decode prog_43_method_2_code 67 = .ok (.dup, 1) := by decide +kernel
theorem d2_68 : decode prog_43_method_2_code 68 = .ok (.dload 6, 2) := by decide +kernel
theorem d2_75 : decode prog_43_method_2_code 75 = .ok (.invokespecial 30, 3) := by decide +kernel
theorem d2_78 : decode prog_43_method_2_code 78 = .ok (.athrow, 1) := by decide +kernel
theorem d2_79 : decode prog_43_method_2_code 79 = .ok (.aload_n 0, 1) := by decide +kernel
theorem d2_80 : decode prog_43_method_2_code 80 = .ok (.dload_n 1, 1) := by decide +kernel
theorem d2_81 : decode prog_43_method_2_code 81 = .ok (.putfield 35, 3) := by decide +kernel
theorem d2_84 : decode prog_43_method_2_code 84 = .ok (.aload_n 0, 1) := by decide +kernel
theorem d2_85 : decode prog_43_method_2_code 85 = .ok (.dload_n 3, 1) := by decide +kernel
theorem d2_86 : decode prog_43_method_2_code 86 = .ok (.putfield 39, 3) := by decide +kernel
theorem d2_89 : decode prog_43_method_2_code 89 = .ok (.aload_n 0, 1) := by decide +kernel
theorem d2_90 : decode prog_43_method_2_code 90 = .ok (.aload 5, 2) := by decide +kernel
theorem d2_92 : decode prog_43_method_2_code 92 = .ok (.ldc 42, 2) := by decide +kernel
theorem d2_94 : decode prog_43_method_2_code 94 = .ok (.invokestatic 44, 3) := by decide +kernel
theorem d2_97 : decode prog_43_method_2_code 97 = .ok (.checkcast 50, 3) := by decide +kernel
theorem d2_100 : decode prog_43_method_2_code 100 = .ok (.putfield 52, 3) := by decide +kernel
theorem d2_103 : decode prog_43_method_2_code 103 = .ok (.aload_n 0, 1) := by decide +kernel
theorem d2_104 : decode prog_43_method_2_code 104 = .ok (.dload 6, 2) := by decide +kernel
theorem d2_106 : decode prog_43_method_2_code 106 = .ok (.putfield 54, 3) := by decide +kernel
theorem d2_109 : decode prog_43_method_2_code 109 = .ok (.return_, 1) := by decide +kernel
theorem oLd_0 {Z : State} {a0 : Array Value} (hw : ∀ d ∈ tables_1, d.before a0 Z = true) : ∀ f ∈ ([("com/example/likely_match/likelymatch/ranking/Bm25", "k1", "D", (.double (0 : UInt64))), ("com/example/likely_match/likelymatch/ranking/Bm25", "b", "D", (.double (0 : UInt64))), ("com/example/likely_match/likelymatch/ranking/Bm25", "idf", "Lcom/example/likely_match/likelymatch/ranking/Idf;", .null), ("com/example/likely_match/likelymatch/ranking/Bm25", "k3", "D", (.double (0 : UInt64)))] : List (String × String × String × Value)), Laid Z a0 "com/example/likely_match/likelymatch/ranking/Bm25" f.1 f.2.1 f.2.2.1 ∧ ∃ t, parseFieldDescriptor f.2.2.1 = some t ∧ f.2.2.2 = defaultValue t := by
    intro f hf
    simp only [List.mem_cons, List.not_mem_nil, or_false] at hf
    rcases hf with rfl | rfl | rfl | rfl
    · exact ⟨Or.inr (hw _ (List.mem_of_getElem? (i := 28) rfl)), .double, (by decide : parseFieldDescriptor "D" = some .double), rfl⟩
    · exact ⟨Or.inr (hw _ (List.mem_of_getElem? (i := 30) rfl)), .double, (by decide : parseFieldDescriptor "D" = some .double), rfl⟩
    · exact ⟨Or.inr (hw _ (List.mem_of_getElem? (i := 46) rfl)), (.object "com/example/likely_match/likelymatch/ranking/Idf"), (by decide : parseFieldDescriptor "Lcom/example/likely_match/likelymatch/ranking/Idf;" = some (.object "com/example/likely_match/likelymatch/ranking/Idf")), rfl⟩
    · exact ⟨Or.inr (hw _ (List.mem_of_getElem? (i := 48) rfl)), .double, (by decide : parseFieldDescriptor "D" = some .double), rfl⟩
theorem oAp_0 {Z : State} {a0 : Array Value} (hw : ∀ d ∈ tables_1, d.before a0 Z = true) {y0 y1 y2 y3 : Value} : oApart Z [("com/example/likely_match/likelymatch/ranking/Bm25", "k1", "D", y0), ("com/example/likely_match/likelymatch/ranking/Bm25", "b", "D", y1), ("com/example/likely_match/likelymatch/ranking/Bm25", "idf", "Lcom/example/likely_match/likelymatch/ranking/Idf;", y2), ("com/example/likely_match/likelymatch/ranking/Bm25", "k3", "D", y3)] := by
  refine oApart.of (C := "com/example/likely_match/likelymatch/ranking/Bm25") (a0 := a0) (fun f hf => ?_) (by show (["k1", "b", "idf", "k3"] : List String).Nodup; decide)
  · simp only [List.mem_cons, List.not_mem_nil, or_false] at hf
    rcases hf with rfl | rfl | rfl | rfl
    · exact ⟨Or.inr (hw _ (List.mem_of_getElem? (i := 28) rfl)), .double, (by decide : parseFieldDescriptor "D" = some .double)⟩
    · exact ⟨Or.inr (hw _ (List.mem_of_getElem? (i := 30) rfl)), .double, (by decide : parseFieldDescriptor "D" = some .double)⟩
    · exact ⟨Or.inr (hw _ (List.mem_of_getElem? (i := 46) rfl)), (.object "com/example/likely_match/likelymatch/ranking/Idf"), (by decide : parseFieldDescriptor "Lcom/example/likely_match/likelymatch/ranking/Idf;" = some (.object "com/example/likely_match/likelymatch/ranking/Idf"))⟩
    · exact ⟨Or.inr (hw _ (List.mem_of_getElem? (i := 48) rfl)), .double, (by decide : parseFieldDescriptor "D" = some .double)⟩
theorem oStr {Z : State} {a0 : Array Value} (hw : ∀ d ∈ tables_1, d.before a0 Z = true) : ∀ a ∈ Bundle.stringAtoms, a.before a0 Z = true := by
  intro a ha
  simp only [Bundle.stringAtoms, List.mem_cons, List.not_mem_nil, or_false] at ha
  rcases ha with rfl | rfl | rfl | rfl | rfl | rfl | rfl
  · exact (hw _ (List.mem_of_getElem? (i := 32) rfl))
  · exact (hw _ (List.mem_of_getElem? (i := 33) rfl))
  · exact (hw _ (List.mem_of_getElem? (i := 34) rfl))
  · exact (hw _ (List.mem_of_getElem? (i := 35) rfl))
  · exact (hw _ (List.mem_of_getElem? (i := 36) rfl))
  · exact (hw _ (List.mem_of_getElem? (i := 37) rfl))
  · exact (hw _ (List.mem_of_getElem? (i := 38) rfl))
theorem pd_0 : parseMethodDescriptor "(Ljava/lang/Object;Ljava/lang/String;)Ljava/lang/Object;" = some ⟨[(.object "java/lang/Object"), (.object "java/lang/String")], some (.object "java/lang/Object")⟩ := by decide +kernel
set_option maxRecDepth 65536 in
set_option maxHeartbeats 40000000 in
theorem own_init {l : Launch} {Z : State} {a0 : Array Value} {h0 : Heap} (hw : ∀ d ∈ tables_1, d.before a0 Z = true) {x y k3 : UInt64} {ia o : Addr} (hE : Exa Z h0 ia "com/example/likely_match/likelymatch/ranking/Idf") (hf1 : Jvm.Free.Fl.Fin64 x) (h1 : ¬ cmpValue (FP.dcmp x 0) .l < 0) (h2 : ¬ cmpValue (FP.dcmp y 0) .l < 0) (h3 : ¬ 0 < cmpValue (FP.dcmp y 4607182418800017408) .g) (h4 : ¬ cmpValue (FP.dcmp k3 0) .l < 0) :
    oCtr l Z h0 [] (⟨"com/example/likely_match/likelymatch/ranking/Bm25", "<init>", "(DDLcom/example/likely_match/likelymatch/ranking/Idf;D)V"⟩ : MethodName) prog_43_method_2_code 8 none ({ frames := 2, cells := 2, slots := 16, locals := 60 } : Room) #[(.ref o), (.double x), (.double y), (.ref ia), (.double k3)] [(o, .inr ("com/example/likely_match/likelymatch/ranking/Bm25", [("com/example/likely_match/likelymatch/ranking/Bm25", "k1", "D", (.double (0 : UInt64))), ("com/example/likely_match/likelymatch/ranking/Bm25", "b", "D", (.double (0 : UInt64))), ("com/example/likely_match/likelymatch/ranking/Bm25", "idf", "Lcom/example/likely_match/likelymatch/ranking/Idf;", .null), ("com/example/likely_match/likelymatch/ranking/Bm25", "k3", "D", (.double (0 : UInt64)))]))] (oVoid fun d => d = [(o, .inr ("com/example/likely_match/likelymatch/ranking/Bm25", [("com/example/likely_match/likelymatch/ranking/Bm25", "k1", "D", (.double x)), ("com/example/likely_match/likelymatch/ranking/Bm25", "b", "D", (.double y)), ("com/example/likely_match/likelymatch/ranking/Bm25", "idf", "Lcom/example/likely_match/likelymatch/ranking/Idf;", (.ref ia)), ("com/example/likely_match/likelymatch/ranking/Bm25", "k3", "D", (.double k3))]))]) := by
  refine oCtr.of (Ls := #[.val (.ref o), .val (.double x), .second, .val (.double y), .second, .val (.ref ia), .val (.double k3), .second]) (plainFor_of_name (by first | (simp [plainName, overriddenIn]; done) | decide +kernel)) (fun m => by first | (simp [entryFrame, mkF, argsToLocals, Value.category]; done) | rfl) ?_
  intro p e s m below meth c K
  refine oW.aloadN (pc' := 1) K d2_0 rfl rfl rfl ?_
  refine oW.initO (W := 0) (pc' := 4) K (hw _ (List.mem_of_getElem? (i := 16) rfl)) (hw _ (List.mem_of_getElem? (i := 17) rfl)) (hw _ (List.mem_of_getElem? (i := 18) rfl)) d2_1 rfl (by decide) (Nat.le_of_eq rfl) (by decide) rfl ?_
  refine oW.dloadN (pc' := 5) K d2_4 rfl rfl ?_
  refine oW.dconst0 (pc' := 6) K d2_5 rfl ?_
  obtain ⟨v6, ev6⟩ : ∃ z : Int32, z = cmpValue (FP.dcmp x (0 : UInt64)) .l := ⟨_, rfl⟩
  refine oW.dcmp (pc' := 7) K d2_6 ev6 rfl ?_
  refine oW.if_lt (pc' := 17) (pc3 := 10) K d2_7 (by decide) (by decide) rfl (fun q => absurd q (by rw [ev6]; exact h1)) (fun c7 => ?_)
  refine oW.dloadN (pc' := 11) K d2_10 rfl rfl ?_
  refine oW.isInf (W := 0) (pc' := 14) K (hw _ (List.mem_of_getElem? (i := 19) rfl)) (hw _ (List.mem_of_getElem? (i := 20) rfl)) (hw _ (List.mem_of_getElem? (i := 21) rfl)) (hw _ (List.mem_of_getElem? (i := 22) rfl)) (hw _ (List.mem_of_getElem? (i := 23) rfl)) (hw _ (List.mem_of_getElem? (i := 24) rfl)) (hw _ (List.mem_of_getElem? (i := 3) rfl)) (hw _ (List.mem_of_getElem? (i := 25) rfl)) (hw _ (List.mem_of_getElem? (i := 26) rfl)) hf1 d2_11 rfl (Nat.le_of_eq rfl) (by decide) (by decide) (by decide) (by decide) rfl ?_
  refine oW.if_eq (pc' := 31) (pc3 := 17) K d2_14 (by decide) (by decide) rfl (fun _ => ?_) (fun q => absurd q (by decide))
  refine oW.dloadN (pc' := 32) K d2_31 rfl rfl ?_
  refine oW.dconst0 (pc' := 33) K d2_32 rfl ?_
  obtain ⟨v33, ev33⟩ : ∃ z : Int32, z = cmpValue (FP.dcmp y (0 : UInt64)) .l := ⟨_, rfl⟩
  refine oW.dcmp (pc' := 34) K d2_33 ev33 rfl ?_
  refine oW.if_lt (pc' := 43) (pc3 := 37) K d2_34 (by decide) (by decide) rfl (fun q => absurd q (by rw [ev33]; exact h2)) (fun c34 => ?_)
  refine oW.dloadN (pc' := 38) K d2_37 rfl rfl ?_
  refine oW.dconst1 (pc' := 39) K d2_38 rfl ?_
  obtain ⟨v39, ev39⟩ : ∃ z : Int32, z = cmpValue (FP.dcmp y (4607182418800017408 : UInt64)) .g := ⟨_, rfl⟩
  refine oW.dcmp (pc' := 40) K d2_39 ev39 rfl ?_
  refine oW.if_le (pc' := 57) (pc3 := 43) K d2_40 (by decide) (by decide) rfl (fun c40 => ?_) (fun q => absurd q (by rw [ev39]; exact h3))
  refine oW.dload (pc' := 59) K d2_57 rfl rfl ?_
  refine oW.dconst0 (pc' := 60) K d2_59 rfl ?_
  obtain ⟨v60, ev60⟩ : ∃ z : Int32, z = cmpValue (FP.dcmp k3 (0 : UInt64)) .l := ⟨_, rfl⟩
  refine oW.dcmp (pc' := 61) K d2_60 ev60 rfl ?_
  refine oW.if_ge (pc' := 79) (pc3 := 64) K d2_61 (by decide) (by decide) rfl (fun c61 => ?_) (fun q => absurd q (by rw [ev60]; exact h4))
  refine oW.aloadN (pc' := 80) K d2_79 rfl rfl rfl ?_
  refine oW.dloadN (pc' := 81) K d2_80 rfl rfl ?_
  refine oW.putf (i := 0) (q := 0) (ty := .double) (ds' := [(o, .inr ("com/example/likely_match/likelymatch/ranking/Bm25", [("com/example/likely_match/likelymatch/ranking/Bm25", "k1", "D", (.double x)), ("com/example/likely_match/likelymatch/ranking/Bm25", "b", "D", (.double (0 : UInt64))), ("com/example/likely_match/likelymatch/ranking/Bm25", "idf", "Lcom/example/likely_match/likelymatch/ranking/Idf;", .null), ("com/example/likely_match/likelymatch/ranking/Bm25", "k3", "D", (.double (0 : UInt64)))]))]) (pc' := 84) K (hw _ (List.mem_of_getElem? (i := 27) rfl)) (Or.inr ⟨(hw _ (List.mem_of_getElem? (i := 28) rfl)), rfl, rfl⟩) (hw _ (List.mem_of_getElem? (i := 6) rfl)) (oAp_0 hw) d2_81 rfl rfl (by decide) rfl rfl rfl rfl ?_
  refine oW.aloadN (pc' := 85) K d2_84 rfl rfl rfl ?_
  refine oW.dloadN (pc' := 86) K d2_85 rfl rfl ?_
  refine oW.putf (i := 0) (q := 1) (ty := .double) (ds' := [(o, .inr ("com/example/likely_match/likelymatch/ranking/Bm25", [("com/example/likely_match/likelymatch/ranking/Bm25", "k1", "D", (.double x)), ("com/example/likely_match/likelymatch/ranking/Bm25", "b", "D", (.double y)), ("com/example/likely_match/likelymatch/ranking/Bm25", "idf", "Lcom/example/likely_match/likelymatch/ranking/Idf;", .null), ("com/example/likely_match/likelymatch/ranking/Bm25", "k3", "D", (.double (0 : UInt64)))]))]) (pc' := 89) K (hw _ (List.mem_of_getElem? (i := 29) rfl)) (Or.inr ⟨(hw _ (List.mem_of_getElem? (i := 30) rfl)), rfl, rfl⟩) (hw _ (List.mem_of_getElem? (i := 6) rfl)) (oAp_0 hw) d2_86 rfl rfl (by decide) rfl rfl rfl rfl ?_
  refine oW.aloadN (pc' := 90) K d2_89 rfl rfl rfl ?_
  refine oW.aload (pc' := 92) K d2_90 rfl rfl rfl ?_
  refine oW.ldcS (n := 12) (cells' := 2) (slots' := 16) (pc' := 94) K (hw _ (List.mem_of_getElem? (i := 31) rfl)) (oStr hw) d2_92 (by decide) (by decide) (by decide) (by decide) rfl rfl rfl ?_
  intro str92
  refine oW.callS (argsL := [(.ref ia), (.ref str92)]) (S := [(.ref o)]) (rm := ({ frames := 0, cells := 0, slots := 0, locals := 0 } : Room)) (W := 1) (cells' := 2) (slots' := 16) (pc' := 97) K (hw _ (List.mem_of_getElem? (i := 39) rfl)) (hw _ (List.mem_of_getElem? (i := 40) rfl)) (hw _ (List.mem_of_getElem? (i := 41) rfl)) (hw _ (List.mem_of_getElem? (i := 42) rfl)) (by decide) (own_rnn hw) (lenOf pd_0 rfl) d2_94 rfl rfl (Nat.le_of_eq rfl) (by decide) (by decide) (by decide) (by decide) rfl rfl rfl ?_
  rintro _ _ ⟨rfl, rfl⟩
  refine oW.castR (pc' := 100) K (hw _ (List.mem_of_getElem? (i := 43) rfl)) (fun h M => Ins.self (hE.ext M.1)) d2_97 rfl ?_
  refine oW.putf (i := 0) (q := 2) (ty := (.object "com/example/likely_match/likelymatch/ranking/Idf")) (ds' := [(o, .inr ("com/example/likely_match/likelymatch/ranking/Bm25", [("com/example/likely_match/likelymatch/ranking/Bm25", "k1", "D", (.double x)), ("com/example/likely_match/likelymatch/ranking/Bm25", "b", "D", (.double y)), ("com/example/likely_match/likelymatch/ranking/Bm25", "idf", "Lcom/example/likely_match/likelymatch/ranking/Idf;", (.ref ia)), ("com/example/likely_match/likelymatch/ranking/Bm25", "k3", "D", (.double (0 : UInt64)))]))]) (pc' := 103) K (hw _ (List.mem_of_getElem? (i := 45) rfl)) (Or.inr ⟨(hw _ (List.mem_of_getElem? (i := 46) rfl)), rfl, rfl⟩) (hw _ (List.mem_of_getElem? (i := 6) rfl)) (oAp_0 hw) d2_100 rfl rfl (by decide) rfl rfl rfl rfl ?_
  refine oW.aloadN (pc' := 104) K d2_103 rfl rfl rfl ?_
  refine oW.dload (pc' := 106) K d2_104 rfl rfl ?_
  refine oW.putf (i := 0) (q := 3) (ty := .double) (ds' := [(o, .inr ("com/example/likely_match/likelymatch/ranking/Bm25", [("com/example/likely_match/likelymatch/ranking/Bm25", "k1", "D", (.double x)), ("com/example/likely_match/likelymatch/ranking/Bm25", "b", "D", (.double y)), ("com/example/likely_match/likelymatch/ranking/Bm25", "idf", "Lcom/example/likely_match/likelymatch/ranking/Idf;", (.ref ia)), ("com/example/likely_match/likelymatch/ranking/Bm25", "k3", "D", (.double k3))]))]) (pc' := 109) K (hw _ (List.mem_of_getElem? (i := 47) rfl)) (Or.inr ⟨(hw _ (List.mem_of_getElem? (i := 48) rfl)), rfl, rfl⟩) (hw _ (List.mem_of_getElem? (i := 6) rfl)) (oAp_0 hw) d2_106 rfl rfl (by decide) rfl rfl rfl rfl ?_
  exact oW.retV K rfl d2_109 (by decide) (by decide) ⟨rfl, rfl⟩
theorem d1_0 : decode jdk_29_method_65_code 0 = .ok (.iload_n 0, 1) := by decide +kernel
theorem d1_1 : decode jdk_29_method_65_code 1 = .ok (.iload_n 1, 1) := by decide +kernel
theorem d1_2 : decode jdk_29_method_65_code 2 = .ok (.if_icmp .lt 7, 3) := by decide +kernel
theorem d1_5 : decode jdk_29_method_65_code 5 = .ok (.iload_n 0, 1) := by decide +kernel
theorem d1_6 : decode jdk_29_method_65_code 6 = .ok (.goto 4, 3) := by decide +kernel
theorem d1_9 : decode jdk_29_method_65_code 9 = .ok (.iload_n 1, 1) := by decide +kernel
theorem d1_10 : decode jdk_29_method_65_code 10 = .ok (.ireturn, 1) := by decide +kernel
set_option maxRecDepth 65536 in
set_option maxHeartbeats 40000000 in
theorem own_max {l : Launch} {Z : State} {a0 : Array Value} {h0 : Heap} (hw : ∀ d ∈ tables_1, d.before a0 Z = true) {ta tb : Int32} {ds0 : oDs} :
    oCtr l Z h0 [] (⟨"java/lang/Math", "max", "(II)I"⟩ : MethodName) jdk_29_method_65_code 2 (some .int) ({ frames := 0, cells := 0, slots := 0, locals := 0 } : Room) #[(.int ta), (.int tb)] ds0 (oVal fun w d => ∃ z : Int32, w = .int z ∧ ta.toInt ≤ z.toInt ∧ d = ds0) := by
  refine oCtr.of (Ls := #[.val (.int ta), .val (.int tb)]) (Jvm.Free.JP.mathPlain rfl (by decide +kernel)) (fun m => by first | (simp [entryFrame, mkF, argsToLocals, Value.category]; done) | rfl) ?_
  intro p e s m below meth c K
  refine oW.iloadN (pc' := 1) K d1_0 rfl rfl ?_
  refine oW.iloadN (pc' := 2) K d1_1 rfl rfl ?_
  refine oW.icmp_lt (pc' := 9) (pc3 := 5) K d1_2 (by decide) (by decide) rfl (fun c2 => ?_) (fun c2 => ?_)
  · simp only [oLt32, oEq32, Int32.reduceToInt] at c2
    refine oW.iloadN (pc' := 10) K d1_9 rfl rfl ?_
    exact oW.retI K rfl d1_10 (by decide) (by decide) ⟨_, rfl, _, rfl, by omega, rfl⟩
  · simp only [oLt32, oEq32, Int32.reduceToInt] at c2
    refine oW.iloadN (pc' := 6) K d1_5 rfl rfl ?_
    refine oW.goto (pc' := 10) K d1_6 (by decide) (by decide) ?_
    exact oW.retI K rfl d1_10 (by decide) (by decide) ⟨_, rfl, _, rfl, by omega, rfl⟩
theorem d7_0 : decode prog_43_method_3_code 0 = .ok (.iload_n 1, 1) := by decide +kernel
theorem d7_1 : decode prog_43_method_3_code 1 = .ok (.i2d, 1) := by decide +kernel
theorem d7_2 : decode prog_43_method_3_code 2 = .ok (.dconst 1, 1) := by decide +kernel
theorem d7_3 : decode prog_43_method_3_code 3 = .ok (.iload_n 1, 1) := by decide +kernel
theorem d7_4 : decode prog_43_method_3_code 4 = .ok (.iconst 1, 1) := by decide +kernel
theorem d7_5 : decode prog_43_method_3_code 5 = .ok (.isub, 1) := by decide +kernel
theorem d7_6 : decode prog_43_method_3_code 6 = .ok (.i2d, 1) := by decide +kernel
theorem d7_7 : decode prog_43_method_3_code 7 = .ok (.aload_n 0, 1) := by decide +kernel
theorem d7_8 : decode prog_43_method_3_code 8 = .ok (.getfield 54, 3) := by decide +kernel
theorem d7_11 : decode prog_43_method_3_code 11 = .ok (.dconst 1, 1) := by decide +kernel
theorem d7_12 : decode prog_43_method_3_code 12 = .ok (.dadd, 1) := by decide +kernel
theorem d7_13 : decode prog_43_method_3_code 13 = .ok (.ddiv, 1) := by decide +kernel
theorem d7_14 : decode prog_43_method_3_code 14 = .ok (.dadd, 1) := by decide +kernel
theorem d7_15 : decode prog_43_method_3_code 15 = .ok (.ddiv, 1) := by decide +kernel
theorem d7_16 : decode prog_43_method_3_code 16 = .ok (.dreturn, 1) := by decide +kernel
set_option maxRecDepth 65536 in
set_option maxHeartbeats 40000000 in
theorem own_qwI {l : Launch} {Z : State} {a0 : Array Value} {h0 : Heap} (hw : ∀ d ∈ tables_1, d.before a0 Z = true) {o ia : Addr} {x y : UInt64} {tq : Int32} {nQ : Int} (hq : tq.toInt = nQ) (hq1 : 1 ≤ nQ ∧ nQ ≤ 2147483647) :
    oCtr l Z h0 [] (⟨"com/example/likely_match/likelymatch/ranking/Bm25", "queryWeight", "(I)D"⟩ : MethodName) prog_43_method_3_code 2 (some .double) ({ frames := 0, cells := 0, slots := 0, locals := 0 } : Room) #[(.ref o), (.int tq)] [(o, .inr ("com/example/likely_match/likelymatch/ranking/Bm25", [("com/example/likely_match/likelymatch/ranking/Bm25", "k1", "D", (.double x)), ("com/example/likely_match/likelymatch/ranking/Bm25", "b", "D", (.double y)), ("com/example/likely_match/likelymatch/ranking/Bm25", "idf", "Lcom/example/likely_match/likelymatch/ranking/Idf;", (.ref ia)), ("com/example/likely_match/likelymatch/ranking/Bm25", "k3", "D", (.double (9218868437227405312 : UInt64)))]))] (oVal fun w d => ∃ v : UInt64, w = .double v ∧ oQ nQ 0 v ∧ d = [(o, .inr ("com/example/likely_match/likelymatch/ranking/Bm25", [("com/example/likely_match/likelymatch/ranking/Bm25", "k1", "D", (.double x)), ("com/example/likely_match/likelymatch/ranking/Bm25", "b", "D", (.double y)), ("com/example/likely_match/likelymatch/ranking/Bm25", "idf", "Lcom/example/likely_match/likelymatch/ranking/Idf;", (.ref ia)), ("com/example/likely_match/likelymatch/ranking/Bm25", "k3", "D", (.double (9218868437227405312 : UInt64)))]))]) := by
  refine oCtr.of (Ls := #[.val (.ref o), .val (.int tq)]) (plainFor_of_name (by first | (simp [plainName, overriddenIn]; done) | decide +kernel)) (fun m => by first | (simp [entryFrame, mkF, argsToLocals, Value.category]; done) | rfl) ?_
  intro p e s m below meth c K
  refine oW.iloadN (pc' := 1) K d7_0 rfl rfl ?_
  obtain ⟨v1, ev1⟩ : ∃ z : UInt64, z = FP.i2d tq := ⟨_, rfl⟩
  have qv1 : oQ (nQ) (0) v1 := hq ▸ oQ.int (oI2D ev1)
  refine oW.i2d (pc' := 2) K d7_1 ev1 rfl ?_
  refine oW.dconst1 (pc' := 3) K d7_2 rfl ?_
  refine oW.iloadN (pc' := 4) K d7_3 rfl rfl ?_
  refine oW.iconst (v := (1 : Int32)) (pc' := 5) K d7_4 (by decide) rfl ?_
  obtain ⟨v5, ev5⟩ : ∃ z : Int32, z = tq - (1 : Int32) := ⟨_, rfl⟩
  refine oW.isub (pc' := 6) K d7_5 ev5 rfl ?_
  have tv5 : v5.toInt = nQ - 1 := by
    have h := oIsub ev5 (by have := oTs; omega)
    have := oTs; omega
  obtain ⟨v6, ev6⟩ : ∃ z : UInt64, z = FP.i2d v5 := ⟨_, rfl⟩
  have qv6 : oQ (nQ - 1) (0) v6 := tv5 ▸ oQ.int (oI2D ev6)
  refine oW.i2d (pc' := 7) K d7_6 ev6 rfl ?_
  refine oW.aloadN (pc' := 8) K d7_7 rfl rfl rfl ?_
  refine oW.getf (i := 0) (q := 3) (pc' := 11) K (hw _ (List.mem_of_getElem? (i := 47) rfl)) d7_8 rfl rfl rfl ?_
  refine oW.dconst1 (pc' := 12) K d7_11 rfl ?_
  obtain ⟨v12, ev12⟩ : ∃ z : UInt64, z = FP.dadd (9218868437227405312 : UInt64) (4607182418800017408 : UInt64) := ⟨_, rfl⟩
  have hi : v12 = 9218868437227405312 := ev12.trans (by decide +kernel)
  refine oW.dadd (pc' := 13) K d7_12 ev12 (by rw [hi]; unfold Jvm.Free.Fl.NoNaN64; decide) rfl ?_
  obtain ⟨v13, ev13⟩ : ∃ z : UInt64, z = FP.ddiv v6 v12 := ⟨_, rfl⟩
  have qv13 : oQ (0) (0) v13 := qv6.divinf (ev13.trans (by rw [hi]))
  refine oW.ddiv (pc' := 14) K d7_13 ev13 (qv13.nn) rfl ?_
  obtain ⟨v14, ev14⟩ : ∃ z : UInt64, z = FP.dadd (4607182418800017408 : UInt64) v13 := ⟨_, rfl⟩
  have qv14 : oQ (1 + 0) (0) v14 := oQone.add qv13 ev14 (by decide) (by decide)
  refine oW.dadd (pc' := 15) K d7_14 ev14 (qv14.nn) rfl ?_
  obtain ⟨v15, ev15⟩ : ∃ z : UInt64, z = FP.ddiv v1 v14 := ⟨_, rfl⟩
  have qv15 : oQ (nQ) (0) v15 := qv1.divx qv14 ev15 nQ 0 (by decide) (by decide) (by decide) (by decide) (by omega) (by show nQ * 1 * 1 = nQ * (1 * 1); omega)
  refine oW.ddiv (pc' := 16) K d7_15 ev15 (qv15.nn) rfl ?_
  exact oW.retD K rfl d7_16 (by decide) (by decide) ⟨_, rfl, _, rfl, qv15, rfl⟩
set_option maxRecDepth 65536 in
set_option maxHeartbeats 40000000 in
theorem own_qwP {l : Launch} {Z : State} {a0 : Array Value} {h0 : Heap} (hw : ∀ d ∈ tables_1, d.before a0 Z = true) {o ia : Addr} {x y : UInt64} {tq : Int32} {nQ : Int} (hq : tq.toInt = nQ) (hq1 : 1 ≤ nQ ∧ nQ ≤ 2147483647) {k3 : UInt64} {nC : Int} {E : Nat} (hk : oQ (nC - 1) 0 k3) (hC : ((2 ^ E : Nat) : Int) = nC) (hE : E ≤ 31) (hc2 : 1 ≤ nC ∧ nC ≤ 2147483648) :
    oCtr l Z h0 [] (⟨"com/example/likely_match/likelymatch/ranking/Bm25", "queryWeight", "(I)D"⟩ : MethodName) prog_43_method_3_code 2 (some .double) ({ frames := 0, cells := 0, slots := 0, locals := 0 } : Room) #[(.ref o), (.int tq)] [(o, .inr ("com/example/likely_match/likelymatch/ranking/Bm25", [("com/example/likely_match/likelymatch/ranking/Bm25", "k1", "D", (.double x)), ("com/example/likely_match/likelymatch/ranking/Bm25", "b", "D", (.double y)), ("com/example/likely_match/likelymatch/ranking/Bm25", "idf", "Lcom/example/likely_match/likelymatch/ranking/Idf;", (.ref ia)), ("com/example/likely_match/likelymatch/ranking/Bm25", "k3", "D", (.double k3))]))] (oVal fun w d => ∃ v N D : UInt64, w = .double v ∧ v = FP.ddiv N D ∧ oQ nQ 0 N ∧ oQ (nC + (nQ - 1)) E D ∧ Jvm.Free.Fl.NoNaN64 v ∧ d = [(o, .inr ("com/example/likely_match/likelymatch/ranking/Bm25", [("com/example/likely_match/likelymatch/ranking/Bm25", "k1", "D", (.double x)), ("com/example/likely_match/likelymatch/ranking/Bm25", "b", "D", (.double y)), ("com/example/likely_match/likelymatch/ranking/Bm25", "idf", "Lcom/example/likely_match/likelymatch/ranking/Idf;", (.ref ia)), ("com/example/likely_match/likelymatch/ranking/Bm25", "k3", "D", (.double k3))]))]) := by
  refine oCtr.of (Ls := #[.val (.ref o), .val (.int tq)]) (plainFor_of_name (by first | (simp [plainName, overriddenIn]; done) | decide +kernel)) (fun m => by first | (simp [entryFrame, mkF, argsToLocals, Value.category]; done) | rfl) ?_
  intro p e s m below meth c K
  refine oW.iloadN (pc' := 1) K d7_0 rfl rfl ?_
  obtain ⟨v1, ev1⟩ : ∃ z : UInt64, z = FP.i2d tq := ⟨_, rfl⟩
  have qv1 : oQ (nQ) (0) v1 := hq ▸ oQ.int (oI2D ev1)
  refine oW.i2d (pc' := 2) K d7_1 ev1 rfl ?_
  refine oW.dconst1 (pc' := 3) K d7_2 rfl ?_
  refine oW.iloadN (pc' := 4) K d7_3 rfl rfl ?_
  refine oW.iconst (v := (1 : Int32)) (pc' := 5) K d7_4 (by decide) rfl ?_
  obtain ⟨v5, ev5⟩ : ∃ z : Int32, z = tq - (1 : Int32) := ⟨_, rfl⟩
  refine oW.isub (pc' := 6) K d7_5 ev5 rfl ?_
  have tv5 : v5.toInt = nQ - 1 := by
    have h := oIsub ev5 (by have := oTs; omega)
    have := oTs; omega
  obtain ⟨v6, ev6⟩ : ∃ z : UInt64, z = FP.i2d v5 := ⟨_, rfl⟩
  have qv6 : oQ (nQ - 1) (0) v6 := tv5 ▸ oQ.int (oI2D ev6)
  refine oW.i2d (pc' := 7) K d7_6 ev6 rfl ?_
  refine oW.aloadN (pc' := 8) K d7_7 rfl rfl rfl ?_
  refine oW.getf (i := 0) (q := 3) (pc' := 11) K (hw _ (List.mem_of_getElem? (i := 47) rfl)) d7_8 rfl rfl rfl ?_
  refine oW.dconst1 (pc' := 12) K d7_11 rfl ?_
  obtain ⟨v12, ev12⟩ : ∃ z : UInt64, z = FP.dadd k3 (4607182418800017408 : UInt64) := ⟨_, rfl⟩
  have qv12 : oQ (nC) (0) v12 := (hk.add oQone ev12 (by decide) (by omega)).cast rfl (by omega)
  refine oW.dadd (pc' := 13) K d7_12 ev12 (qv12.nn) rfl ?_
  obtain ⟨v13, ev13⟩ : ∃ z : UInt64, z = FP.ddiv v6 v12 := ⟨_, rfl⟩
  have qv13 : oQ (nQ - 1) (E) v13 := qv6.divx qv12 ev13 _ E (by omega) (by decide) (by decide) (by omega) (by omega) (oC1 hC)
  refine oW.ddiv (pc' := 14) K d7_13 ev13 (qv13.nn) rfl ?_
  obtain ⟨v14, ev14⟩ : ∃ z : UInt64, z = FP.dadd (4607182418800017408 : UInt64) v13 := ⟨_, rfl⟩
  have qv14 : oQ (nC + (nQ - 1)) (E) v14 := (oQone.up E (Nat.zero_add _) (by omega) (by rw [hC, Int.one_mul])).add qv13 ev14 (by omega) (by omega)
  refine oW.dadd (pc' := 15) K d7_14 ev14 (qv14.nn) rfl ?_
  obtain ⟨v15, ev15⟩ : ∃ z : UInt64, z = FP.ddiv v1 v14 := ⟨_, rfl⟩
  have nnv15 := qv1.divnn qv14 ev15 (by omega) (by decide) (by omega)
  refine oW.ddiv (pc' := 16) K d7_15 ev15 (nnv15) rfl ?_
  exact oW.retD K rfl d7_16 (by decide) (by decide) ⟨_, rfl, _, _, _, rfl, ev15, qv1, qv14, nnv15, rfl⟩
set_option maxRecDepth 65536 in
set_option maxHeartbeats 40000000 in
theorem own_qwA {l : Launch} {Z : State} {a0 : Array Value} {h0 : Heap} (hw : ∀ d ∈ tables_1, d.before a0 Z = true) {o ia : Addr} {x y : UInt64} {tq : Int32} {nQ : Int} (hq : tq.toInt = nQ) (hq1 : 1 ≤ nQ ∧ nQ ≤ 2147483647) {k3 : UInt64} {z3 : Int} (hk : oQ z3 1074 k3) (h3 : 0 ≤ z3) (hm : oMag 1088 k3) :
    oCtr l Z h0 [] (⟨"com/example/likely_match/likelymatch/ranking/Bm25", "queryWeight", "(I)D"⟩ : MethodName) prog_43_method_3_code 2 (some .double) ({ frames := 0, cells := 0, slots := 0, locals := 0 } : Room) #[(.ref o), (.int tq)] [(o, .inr ("com/example/likely_match/likelymatch/ranking/Bm25", [("com/example/likely_match/likelymatch/ranking/Bm25", "k1", "D", (.double x)), ("com/example/likely_match/likelymatch/ranking/Bm25", "b", "D", (.double y)), ("com/example/likely_match/likelymatch/ranking/Bm25", "idf", "Lcom/example/likely_match/likelymatch/ranking/Idf;", (.ref ia)), ("com/example/likely_match/likelymatch/ranking/Bm25", "k3", "D", (.double k3))]))] (oVal fun w d => ∃ (v : UInt64) (z : Int), w = .double v ∧ oQ z 1074 v ∧ oU ≤ z ∧ z ≤ nQ * oU ∧ d = [(o, .inr ("com/example/likely_match/likelymatch/ranking/Bm25", [("com/example/likely_match/likelymatch/ranking/Bm25", "k1", "D", (.double x)), ("com/example/likely_match/likelymatch/ranking/Bm25", "b", "D", (.double y)), ("com/example/likely_match/likelymatch/ranking/Bm25", "idf", "Lcom/example/likely_match/likelymatch/ranking/Idf;", (.ref ia)), ("com/example/likely_match/likelymatch/ranking/Bm25", "k3", "D", (.double k3))]))]) := by
  refine oCtr.of (Ls := #[.val (.ref o), .val (.int tq)]) (plainFor_of_name (by first | (simp [plainName, overriddenIn]; done) | decide +kernel)) (fun m => by first | (simp [entryFrame, mkF, argsToLocals, Value.category]; done) | rfl) ?_
  intro p e s m below meth c K
  refine oW.iloadN (pc' := 1) K d7_0 rfl rfl ?_
  obtain ⟨v1, ev1⟩ : ∃ z : UInt64, z = FP.i2d tq := ⟨_, rfl⟩
  have qv1 : oQ (nQ) (0) v1 := hq ▸ oQ.int (oI2D ev1)
  refine oW.i2d (pc' := 2) K d7_1 ev1 rfl ?_
  refine oW.dconst1 (pc' := 3) K d7_2 rfl ?_
  refine oW.iloadN (pc' := 4) K d7_3 rfl rfl ?_
  refine oW.iconst (v := (1 : Int32)) (pc' := 5) K d7_4 (by decide) rfl ?_
  obtain ⟨v5, ev5⟩ : ∃ z : Int32, z = tq - (1 : Int32) := ⟨_, rfl⟩
  refine oW.isub (pc' := 6) K d7_5 ev5 rfl ?_
  have tv5 : v5.toInt = nQ - 1 := by
    have h := oIsub ev5 (by have := oTs; omega)
    have := oTs; omega
  obtain ⟨v6, ev6⟩ : ∃ z : UInt64, z = FP.i2d v5 := ⟨_, rfl⟩
  have qv6 : oQ (nQ - 1) (0) v6 := tv5 ▸ oQ.int (oI2D ev6)
  refine oW.i2d (pc' := 7) K d7_6 ev6 rfl ?_
  refine oW.aloadN (pc' := 8) K d7_7 rfl rfl rfl ?_
  refine oW.getf (i := 0) (q := 3) (pc' := 11) K (hw _ (List.mem_of_getElem? (i := 47) rfl)) d7_8 rfl rfl rfl ?_
  refine oW.dconst1 (pc' := 12) K d7_11 rfl ?_
  obtain ⟨v12, ev12⟩ : ∃ z : UInt64, z = FP.dadd k3 (4607182418800017408 : UInt64) := ⟨_, rfl⟩
  have fn12 : FP.Core.DFin v12 := Jvm.Free.Fl.fin64_core.mp ((oMAdd (K := 1090) hm (by unfold oMag Jvm.Free.Fl.Mag64; decide : oMag 1088 4607182418800017408) ev12 (by decide)).fin (by decide))
  obtain ⟨zt, qv12, ht⟩ := hk.addLo oQoneU ev12 fn12 oQoneU (by omega)
  have u0 := oU0
  refine oW.dadd (pc' := 13) K d7_12 ev12 (qv12.nn) rfl ?_
  obtain ⟨v13, ev13⟩ : ∃ z : UInt64, z = FP.ddiv v6 v12 := ⟨_, rfl⟩
  obtain ⟨zu, qv13, hu0, hu1⟩ := qv6.u.divU qv12 ev13 (oQ0 1074) qv6.u (by decide) (Int.mul_nonneg (by omega) (by omega)) (by omega) (by rw [Int.zero_mul]; exact Int.mul_nonneg (Int.mul_nonneg (by omega) (by omega)) (by omega)) (oLe1 (by omega) ht)
  refine oW.ddiv (pc' := 14) K d7_13 ev13 (qv13.nn) rfl ?_
  obtain ⟨v14, ev14⟩ : ∃ z : UInt64, z = FP.dadd (4607182418800017408 : UInt64) v13 := ⟨_, rfl⟩
  have hsp := oSplit nQ
  obtain ⟨zd, qv14, hd0, hd1⟩ := oQoneU.addB qv13 ev14 oQoneU qv1.u (by omega) (by omega) (by omega)
  refine oW.dadd (pc' := 15) K d7_14 ev14 (qv14.nn) rfl ?_
  obtain ⟨v15, ev15⟩ : ∃ z : UInt64, z = FP.ddiv v1 v14 := ⟨_, rfl⟩
  obtain ⟨zw, qv15, hw0, hw1⟩ := qv1.u.divU qv14 ev15 oQoneU qv1.u (by omega) (Int.mul_nonneg (by omega) (by omega)) (by omega) (oLe2 hd1) (oLe1 (by omega) hd0)
  refine oW.ddiv (pc' := 16) K d7_15 ev15 (qv15.nn) rfl ?_
  exact oW.retD K rfl d7_16 (by decide) (by decide) ⟨_, rfl, _, _, rfl, qv15, hw0, hw1, rfl⟩
theorem pd_1 : parseMethodDescriptor "(II)I" = some ⟨[.int, .int], some .int⟩ := by decide +kernel
theorem pd_2 : parseMethodDescriptor "(DDLcom/example/likely_match/likelymatch/ranking/Idf;D)V" = some ⟨[.double, .double, (.object "com/example/likely_match/likelymatch/ranking/Idf"), .double], none⟩ := by decide +kernel
theorem pd_3 : parseMethodDescriptor "(I)D" = some ⟨[.int], some .double⟩ := by decide +kernel
set_option maxRecDepth 65536 in
set_option maxHeartbeats 40000000 in
theorem own_law {l : Launch} {Z : State} {a0 : Array Value} {h0 : Heap} (hw : ∀ d ∈ tables_1, d.before a0 Z = true) {ia : Addr} (hSt : Sta Z h0 "com/example/likely_match/likelymatch/ranking/Idf" "PLAIN" "Lcom/example/likely_match/likelymatch/ranking/Idf;" (.ref ia)) (hEx : Exa Z h0 ia "com/example/likely_match/likelymatch/ranking/Idf") (p0 : Int32) (p1 : Int32) (q2 : Int64) (p3 : Int32) :
    oCtr l Z h0 tables_1 x code maxLocals ret room_1 #[(.int p0), (.int p1), (.long q2), (.int p3)] [] (oVal fun w _ => w = .int 1) := by
  refine oCtr.of (Ls := #[.val (.int p0), .val (.int p1), .val (.long q2), .second, .val (.int p3), .unset, .unset, .unset, .unset, .unset, .unset, .unset, .unset, .unset, .unset]) (plainFor_of_name (by first | (simp [plainName, overriddenIn]; done) | decide +kernel)) (fun m => by first | (simp [entryFrame, mkF, argsToLocals, Value.category, maxLocals]; done) | rfl) ?_
  intro p e s m below meth c K
  refine oW.iconst (v := (1 : Int32)) (pc' := 1) K at_0 (by decide) rfl ?_
  refine oW.iloadN (pc' := 2) K at_1 rfl rfl ?_
  refine oW.ldcI (pc' := 4) K (hw _ (List.mem_of_getElem? (i := 0) rfl)) at_2 rfl ?_
  obtain ⟨v4, ev4⟩ : ∃ z : Int32, z = p0 &&& (2147483647 : Int32) := ⟨_, rfl⟩
  refine oW.iand (pc' := 5) K at_4 ev4 rfl ?_
  refine oW.callS (argsL := [(.int (1 : Int32)), (.int v4)]) (S := []) (rm := ({ frames := 0, cells := 0, slots := 0, locals := 0 } : Room)) (W := 0) (cells' := 0) (slots' := 0) (pc' := 8) K (hw _ (List.mem_of_getElem? (i := 1) rfl)) (hw _ (List.mem_of_getElem? (i := 2) rfl)) (hw _ (List.mem_of_getElem? (i := 3) rfl)) (hw _ (List.mem_of_getElem? (i := 4) rfl)) (by decide) (own_max hw) (lenOf pd_1 rfl) at_5 rfl rfl (Nat.le_of_eq rfl) (by decide) (by decide) (by decide) (by decide) rfl rfl rfl ?_
  rintro _ _ ⟨tq, rfl, hmx, rfl⟩
  obtain ⟨nQ, hq⟩ : ∃ z : Int, tq.toInt = z := ⟨_, rfl⟩
  have hq1 : 1 ≤ nQ ∧ nQ ≤ 2147483647 := by have := oB32 tq; have := oTs; omega
  refine oW.istore (Ls' := #[.val (.int p0), .val (.int p1), .val (.long q2), .second, .val (.int p3), .val (.int tq), .unset, .unset, .unset, .unset, .unset, .unset, .unset, .unset, .unset]) (pc' := 10) K at_8 rfl rfl ?_
  refine oW.iload (pc' := 12) K at_10 rfl rfl ?_
  refine oW.iconst (v := (3 : Int32)) (pc' := 13) K at_12 (by decide) rfl ?_
  obtain ⟨v13, ev13⟩ : ∃ z : Int32, z = p3 &&& (3 : Int32) := ⟨_, rfl⟩
  refine oW.iand (pc' := 14) K at_13 ev13 rfl ?_
  refine oW.istore (Ls' := #[.val (.int p0), .val (.int p1), .val (.long q2), .second, .val (.int p3), .val (.int tq), .val (.int v13), .unset, .unset, .unset, .unset, .unset, .unset, .unset, .unset]) (pc' := 16) K at_14 rfl rfl ?_
  rcases (oMask3 ev13) with hv13 | hv13 | hv13 | hv13
  · subst hv13
    refine oW.iload (pc' := 18) K at_16 rfl rfl ?_
    refine oW.iconst (v := (1 : Int32)) (pc' := 19) K at_18 (by decide) rfl ?_
    refine oW.icmp_ne (pc' := 63) (pc3 := 22) K at_19 (by decide) (by decide) rfl (fun _ => ?_) (fun q => absurd q (by decide))
    refine oW.iload (pc' := 65) K at_63 rfl rfl ?_
    refine oW.if_eq (pc' := 74) (pc3 := 68) K at_65 (by decide) (by decide) rfl (fun _ => ?_) (fun q => absurd q (by decide))
    refine oW.iloadN (pc' := 75) K at_74 rfl rfl ?_
    refine oW.bipush (v := (31 : Int32)) (pc' := 77) K at_75 (by decide) rfl ?_
    obtain ⟨v77, ev77⟩ : ∃ z : Int32, z = p1 &&& (31 : Int32) := ⟨_, rfl⟩
    refine oW.iand (pc' := 78) K at_77 ev77 rfl ?_
    refine oW.istore (Ls' := #[.val (.int p0), .val (.int p1), .val (.long q2), .second, .val (.int p3), .val (.int tq), .val (.int (0 : Int32)), .val (.int v77), .unset, .unset, .unset, .unset, .unset, .unset, .unset]) (pc' := 80) K at_78 rfl rfl ?_
    refine oW.lconst (v := (1 : Int64)) (pc' := 81) K at_80 (by decide) rfl ?_
    refine oW.iload (pc' := 83) K at_81 rfl rfl ?_
    obtain ⟨v83, ev83⟩ : ∃ z : Int64, z = (1 : Int64) <<< (v77.toInt64 &&& 63) := ⟨_, rfl⟩
    refine oW.lshl (pc' := 84) K at_83 ev83 rfl ?_
    have r77 := oMaskR 31 (by decide) ev77
    obtain ⟨E, hEe⟩ : ∃ E : Nat, v77.toInt = (E : Int) := ⟨v77.toInt.toNat, by omega⟩
    have tv83' := oShlL hEe (by omega) ev83
    obtain ⟨nC, hC⟩ : ∃ z : Int, ((2 ^ E : Nat) : Int) = z := ⟨_, rfl⟩
    have tv83 : v83.toInt = nC := tv83'.trans hC
    have hc2 : 1 ≤ nC ∧ nC ≤ 2147483648 := by have r5 : 2 ^ E ≤ 2 ^ 31 := Nat.pow_le_pow_right (by decide) (by omega); have r6 := Nat.two_pow_pos E; omega
    refine oW.lstore (Ls' := #[.val (.int p0), .val (.int p1), .val (.long q2), .second, .val (.int p3), .val (.int tq), .val (.int (0 : Int32)), .val (.int v77), .val (.long v83), .second, .unset, .unset, .unset, .unset, .unset]) (pc' := 86) K at_84 rfl rfl ?_
    refine oW.new (fs := [("com/example/likely_match/likelymatch/ranking/Bm25", "k1", "D", (.double (0 : UInt64))), ("com/example/likely_match/likelymatch/ranking/Bm25", "b", "D", (.double (0 : UInt64))), ("com/example/likely_match/likelymatch/ranking/Bm25", "idf", "Lcom/example/likely_match/likelymatch/ranking/Idf;", .null), ("com/example/likely_match/likelymatch/ranking/Bm25", "k3", "D", (.double (0 : UInt64)))]) (cells' := 1) (slots' := 4) (dsf := fun z => [(z, .inr ("com/example/likely_match/likelymatch/ranking/Bm25", [("com/example/likely_match/likelymatch/ranking/Bm25", "k1", "D", (.double (0 : UInt64))), ("com/example/likely_match/likelymatch/ranking/Bm25", "b", "D", (.double (0 : UInt64))), ("com/example/likely_match/likelymatch/ranking/Bm25", "idf", "Lcom/example/likely_match/likelymatch/ranking/Idf;", .null), ("com/example/likely_match/likelymatch/ranking/Bm25", "k3", "D", (.double (0 : UInt64)))]))]) (pc' := 89) K (hw _ (List.mem_of_getElem? (i := 5) rfl)) (hw _ (List.mem_of_getElem? (i := 6) rfl)) (hw _ (List.mem_of_getElem? (i := 7) rfl)) (oLd_0 hw) at_86 (by decide) (by decide) rfl rfl (fun _ => rfl) rfl ?_
    intro a86 ha86
    refine oW.dup (pc' := 90) K at_89 rfl rfl ?_
    refine oW.ldc2D (pc' := 93) K (hw _ (List.mem_of_getElem? (i := 8) rfl)) at_90 rfl ?_
    refine oW.ldc2D (pc' := 96) K (hw _ (List.mem_of_getElem? (i := 9) rfl)) at_93 rfl ?_
    refine oW.getst (pc' := 99) K (hw _ (List.mem_of_getElem? (i := 10) rfl)) hSt at_96 rfl ?_
    refine oW.lload (pc' := 101) K at_99 rfl rfl ?_
    refine oW.lconst (v := (1 : Int64)) (pc' := 102) K at_101 (by decide) rfl ?_
    obtain ⟨v102, ev102⟩ : ∃ z : Int64, z = v83 - (1 : Int64) := ⟨_, rfl⟩
    refine oW.lsub (pc' := 103) K at_102 ev102 rfl ?_
    have tv102 : v102.toInt = nC - 1 := by have h := oLsub ev102 (by have := oTs; omega); have := oTs; omega
    obtain ⟨v103, ev103⟩ : ∃ z : UInt64, z = FP.l2d v102 := ⟨_, rfl⟩
    have qv103 : oQ (nC - 1) (0) v103 := tv102 ▸ oQ.int (oL2D ev103 (by omega))
    refine oW.l2d (pc' := 104) K at_103 ev103 rfl ?_
    refine oW.callI (a := a86) (argsL := [(.double (4609884578576439706 : UInt64)), (.double (4604930618986332160 : UInt64)), (.ref ia), (.double v103)]) (S := [(.ref a86)]) (rm := ({ frames := 2, cells := 2, slots := 16, locals := 60 } : Room)) (W := 1) (cells' := 3) (slots' := 20) (pc' := 107) K rfl (hw _ (List.mem_of_getElem? (i := 13) rfl)) (hw _ (List.mem_of_getElem? (i := 14) rfl)) (hw _ (List.mem_of_getElem? (i := 7) rfl)) (hw _ (List.mem_of_getElem? (i := 15) rfl)) (by decide) (own_init hw hEx (by unfold Jvm.Free.Fl.Fin64; decide) (by decide +kernel) (by decide +kernel) (by decide +kernel) (fun q => absurd ((qv103.cmp (oQ0 0) rfl).1.mp q) (by omega))) (lenOf pd_2 rfl) at_104 rfl rfl (Nat.le_of_eq rfl) (by decide) (by decide) (by decide) (by decide) rfl rfl rfl ?_
    rintro _ rfl
    refine oW.astore (Ls' := #[.val (.int p0), .val (.int p1), .val (.long q2), .second, .val (.int p3), .val (.int tq), .val (.int (0 : Int32)), .val (.int v77), .val (.long v83), .second, .val (.ref a86), .unset, .unset, .unset, .unset]) (pc' := 109) K at_107 rfl rfl rfl ?_
    refine oW.aload (pc' := 111) K at_109 rfl rfl rfl ?_
    refine oW.iload (pc' := 113) K at_111 rfl rfl ?_
    refine oW.callV (a := a86) (argsL := [(.int tq)]) (S := []) (rm := ({ frames := 0, cells := 0, slots := 0, locals := 0 } : Room)) (W := 0) (cells' := 3) (slots' := 20) (pc' := 116) K (hw _ (List.mem_of_getElem? (i := 49) rfl)) (hw _ (List.mem_of_getElem? (i := 50) rfl)) (hw _ (List.mem_of_getElem? (i := 52) rfl)) (hw _ (List.mem_of_getElem? (i := 51) rfl)) (hw _ (List.mem_of_getElem? (i := 53) rfl)) (hw _ (List.mem_of_getElem? (i := 7) rfl)) (by decide) (oNF (hw _ (List.mem_of_getElem? (i := 52) rfl))) (fun _ M => oMem.exa (i := 0) rfl M) (own_qwP hw hq hq1 qv103 hC (by omega) hc2) (lenOf pd_3 rfl) at_113 rfl rfl (Nat.le_of_eq rfl) (by decide) (by decide) (by decide) (by decide) rfl rfl rfl ?_
    rintro _ _ ⟨wv, wN, wD, rfl, ew, qN, qD, nnw, rfl⟩
    refine oW.dstore (Ls' := #[.val (.int p0), .val (.int p1), .val (.long q2), .second, .val (.int p3), .val (.int tq), .val (.int (0 : Int32)), .val (.int v77), .val (.long v83), .second, .val (.ref a86), .val (.double wv), .second, .unset, .unset]) (pc' := 118) K at_116 rfl rfl ?_
    refine oW.iload (pc' := 120) K at_118 rfl rfl ?_
    obtain ⟨v120, ev120⟩ : ∃ z : UInt64, z = FP.i2d tq := ⟨_, rfl⟩
    have qv120 : oQ (nQ) (0) v120 := hq ▸ oQ.int (oI2D ev120)
    refine oW.i2d (pc' := 121) K at_120 ev120 rfl ?_
    refine oW.lload (pc' := 123) K at_121 rfl rfl ?_
    obtain ⟨v123, ev123⟩ : ∃ z : UInt64, z = FP.l2d v83 := ⟨_, rfl⟩
    have qv123 : oQ (nC) (0) v123 := tv83 ▸ oQ.int (oL2D ev123 (by omega))
    refine oW.l2d (pc' := 124) K at_123 ev123 rfl ?_
    obtain ⟨v124, ev124⟩ : ∃ z : UInt64, z = FP.dmul v120 v123 := ⟨_, rfl⟩
    have qv124 : oQ (nQ * nC) (0) v124 := qv120.mulpow qv123 ev124 hC (by omega) (by omega)
    refine oW.dmul (pc' := 125) K at_124 ev124 (qv124.nn) rfl ?_
    refine oW.lload (pc' := 127) K at_125 rfl rfl ?_
    refine oW.iload (pc' := 129) K at_127 rfl rfl ?_
    obtain ⟨v129, ev129⟩ : ∃ z : Int64, z = tq.toInt64 := ⟨_, rfl⟩
    refine oW.i2l (pc' := 130) K at_129 ev129 rfl ?_
    have tv129 : v129.toInt = nQ := (oI2L ev129).trans hq
    obtain ⟨v130, ev130⟩ : ∃ z : Int64, z = v83 + v129 := ⟨_, rfl⟩
    refine oW.ladd (pc' := 131) K at_130 ev130 rfl ?_
    have tv130 : v130.toInt = nC + nQ := by have h := oLadd ev130 (by omega); omega
    refine oW.lconst (v := (1 : Int64)) (pc' := 132) K at_131 (by decide) rfl ?_
    obtain ⟨v132, ev132⟩ : ∃ z : Int64, z = v130 - (1 : Int64) := ⟨_, rfl⟩
    refine oW.lsub (pc' := 133) K at_132 ev132 rfl ?_
    have tv132 : v132.toInt = nC + (nQ - 1) := by have h := oLsub ev132 (by have := oTs; omega); have := oTs; omega
    obtain ⟨v133, ev133⟩ : ∃ z : UInt64, z = FP.l2d v132 := ⟨_, rfl⟩
    have qv133 : oQ (nC + (nQ - 1)) (0) v133 := tv132 ▸ oQ.int (oL2D ev133 (by omega))
    refine oW.l2d (pc' := 134) K at_133 ev133 rfl ?_
    obtain ⟨v134, ev134⟩ : ∃ z : UInt64, z = FP.ddiv v124 v133 := ⟨_, rfl⟩
    have nn134 := qv124.divnn qv133 ev134 (by omega) (by decide) (by decide)
    refine oW.ddiv (pc' := 135) K at_134 ev134 (nn134) rfl ?_
    refine oW.dstore (Ls' := #[.val (.int p0), .val (.int p1), .val (.long q2), .second, .val (.int p3), .val (.int tq), .val (.int (0 : Int32)), .val (.int v77), .val (.long v83), .second, .val (.ref a86), .val (.double wv), .second, .val (.double v134), .second]) (pc' := 137) K at_135 rfl rfl ?_
    refine oW.dload (pc' := 139) K at_137 rfl rfl ?_
    refine oW.dload (pc' := 141) K at_139 rfl rfl ?_
    obtain ⟨v141, ev141⟩ : ∃ z : Int32, z = cmpValue (FP.dcmp wv v134) .l := ⟨_, rfl⟩
    refine oW.dcmp (pc' := 142) K at_141 ev141 rfl ?_
    refine oW.if_ne (pc' := 149) (pc3 := 145) K at_142 (by decide) (by decide) rfl (fun q => absurd (qN.divcmp qD ew qv124 qv133 ev134 ev141 (by omega) (by omega) (by decide) (by omega) (by decide) (by decide) (oC2 hC rfl)) q) (fun c142 => ?_)
    refine oW.iconst (v := (1 : Int32)) (pc' := 146) K at_145 (by decide) rfl ?_
    refine oW.goto (pc' := 150) K at_146 (by decide) (by decide) ?_
    exact oW.retB K rfl at_150 (by decide) (by decide) ⟨_, rfl, rfl⟩
  · subst hv13
    refine oW.iload (pc' := 18) K at_16 rfl rfl ?_
    refine oW.iconst (v := (1 : Int32)) (pc' := 19) K at_18 (by decide) rfl ?_
    refine oW.icmp_ne (pc' := 63) (pc3 := 22) K at_19 (by decide) (by decide) rfl (fun q => absurd q (by decide)) (fun _ => ?_)
    refine oW.new (fs := [("com/example/likely_match/likelymatch/ranking/Bm25", "k1", "D", (.double (0 : UInt64))), ("com/example/likely_match/likelymatch/ranking/Bm25", "b", "D", (.double (0 : UInt64))), ("com/example/likely_match/likelymatch/ranking/Bm25", "idf", "Lcom/example/likely_match/likelymatch/ranking/Idf;", .null), ("com/example/likely_match/likelymatch/ranking/Bm25", "k3", "D", (.double (0 : UInt64)))]) (cells' := 1) (slots' := 4) (dsf := fun z => [(z, .inr ("com/example/likely_match/likelymatch/ranking/Bm25", [("com/example/likely_match/likelymatch/ranking/Bm25", "k1", "D", (.double (0 : UInt64))), ("com/example/likely_match/likelymatch/ranking/Bm25", "b", "D", (.double (0 : UInt64))), ("com/example/likely_match/likelymatch/ranking/Bm25", "idf", "Lcom/example/likely_match/likelymatch/ranking/Idf;", .null), ("com/example/likely_match/likelymatch/ranking/Bm25", "k3", "D", (.double (0 : UInt64)))]))]) (pc' := 25) K (hw _ (List.mem_of_getElem? (i := 5) rfl)) (hw _ (List.mem_of_getElem? (i := 6) rfl)) (hw _ (List.mem_of_getElem? (i := 7) rfl)) (oLd_0 hw) at_22 (by decide) (by decide) rfl rfl (fun _ => rfl) rfl ?_
    intro a22 ha22
    refine oW.dup (pc' := 26) K at_25 rfl rfl ?_
    refine oW.ldc2D (pc' := 29) K (hw _ (List.mem_of_getElem? (i := 8) rfl)) at_26 rfl ?_
    refine oW.ldc2D (pc' := 32) K (hw _ (List.mem_of_getElem? (i := 9) rfl)) at_29 rfl ?_
    refine oW.getst (pc' := 35) K (hw _ (List.mem_of_getElem? (i := 10) rfl)) hSt at_32 rfl ?_
    refine oW.ldc2D (pc' := 38) K (hw _ (List.mem_of_getElem? (i := 54) rfl)) at_35 rfl ?_
    refine oW.callI (a := a22) (argsL := [(.double (4609884578576439706 : UInt64)), (.double (4604930618986332160 : UInt64)), (.ref ia), (.double (9218868437227405312 : UInt64))]) (S := [(.ref a22)]) (rm := ({ frames := 2, cells := 2, slots := 16, locals := 60 } : Room)) (W := 1) (cells' := 3) (slots' := 20) (pc' := 41) K rfl (hw _ (List.mem_of_getElem? (i := 13) rfl)) (hw _ (List.mem_of_getElem? (i := 14) rfl)) (hw _ (List.mem_of_getElem? (i := 7) rfl)) (hw _ (List.mem_of_getElem? (i := 15) rfl)) (by decide) (own_init hw hEx (by unfold Jvm.Free.Fl.Fin64; decide) (by decide +kernel) (by decide +kernel) (by decide +kernel) (by decide +kernel)) (lenOf pd_2 rfl) at_38 rfl rfl (Nat.le_of_eq rfl) (by decide) (by decide) (by decide) (by decide) rfl rfl rfl ?_
    rintro _ rfl
    refine oW.astore (Ls' := #[.val (.int p0), .val (.int p1), .val (.long q2), .second, .val (.int p3), .val (.int tq), .val (.int (1 : Int32)), .val (.ref a22), .unset, .unset, .unset, .unset, .unset, .unset, .unset]) (pc' := 43) K at_41 rfl rfl rfl ?_
    refine oW.aload (pc' := 45) K at_43 rfl rfl rfl ?_
    refine oW.iload (pc' := 47) K at_45 rfl rfl ?_
    refine oW.callV (a := a22) (argsL := [(.int tq)]) (S := []) (rm := ({ frames := 0, cells := 0, slots := 0, locals := 0 } : Room)) (W := 0) (cells' := 3) (slots' := 20) (pc' := 50) K (hw _ (List.mem_of_getElem? (i := 49) rfl)) (hw _ (List.mem_of_getElem? (i := 50) rfl)) (hw _ (List.mem_of_getElem? (i := 52) rfl)) (hw _ (List.mem_of_getElem? (i := 51) rfl)) (hw _ (List.mem_of_getElem? (i := 53) rfl)) (hw _ (List.mem_of_getElem? (i := 7) rfl)) (by decide) (oNF (hw _ (List.mem_of_getElem? (i := 52) rfl))) (fun _ M => oMem.exa (i := 0) rfl M) (own_qwI hw hq hq1) (lenOf pd_3 rfl) at_47 rfl rfl (Nat.le_of_eq rfl) (by decide) (by decide) (by decide) (by decide) rfl rfl rfl ?_
    rintro _ _ ⟨wv, rfl, qw, rfl⟩
    refine oW.iload (pc' := 52) K at_50 rfl rfl ?_
    obtain ⟨v52, ev52⟩ : ∃ z : UInt64, z = FP.i2d tq := ⟨_, rfl⟩
    have qv52 : oQ (nQ) (0) v52 := hq ▸ oQ.int (oI2D ev52)
    refine oW.i2d (pc' := 53) K at_52 ev52 rfl ?_
    obtain ⟨v53, ev53⟩ : ∃ z : Int32, z = cmpValue (FP.dcmp wv v52) .l := ⟨_, rfl⟩
    refine oW.dcmp (pc' := 54) K at_53 ev53 rfl ?_
    refine oW.if_ne (pc' := 61) (pc3 := 57) K at_54 (by decide) (by decide) rfl (fun q => absurd ((qw.cmp qv52 ev53).2.1.mpr rfl) q) (fun c54 => ?_)
    refine oW.iconst (v := (1 : Int32)) (pc' := 58) K at_57 (by decide) rfl ?_
    refine oW.goto (pc' := 62) K at_58 (by decide) (by decide) ?_
    exact oW.retB K rfl at_62 (by decide) (by decide) ⟨_, rfl, rfl⟩
  · subst hv13
    refine oW.iload (pc' := 18) K at_16 rfl rfl ?_
    refine oW.iconst (v := (1 : Int32)) (pc' := 19) K at_18 (by decide) rfl ?_
    refine oW.icmp_ne (pc' := 63) (pc3 := 22) K at_19 (by decide) (by decide) rfl (fun _ => ?_) (fun q => absurd q (by decide))
    refine oW.iload (pc' := 65) K at_63 rfl rfl ?_
    refine oW.if_eq (pc' := 74) (pc3 := 68) K at_65 (by decide) (by decide) rfl (fun q => absurd q (by decide)) (fun _ => ?_)
    refine oW.iload (pc' := 70) K at_68 rfl rfl ?_
    refine oW.iconst (v := (3 : Int32)) (pc' := 71) K at_70 (by decide) rfl ?_
    refine oW.icmp_ne (pc' := 151) (pc3 := 74) K at_71 (by decide) (by decide) rfl (fun _ => ?_) (fun q => absurd q (by decide))
    refine oW.lloadN (pc' := 152) K at_151 rfl rfl ?_
    refine oW.ldc2L (pc' := 155) K (hw _ (List.mem_of_getElem? (i := 55) rfl)) at_152 rfl ?_
    obtain ⟨v155, ev155⟩ : ∃ z : Int64, z = q2 &&& (9223372036854775807 : Int64) := ⟨_, rfl⟩
    refine oW.land (pc' := 156) K at_155 ev155 rfl ?_
    obtain ⟨v156, ev156⟩ : ∃ z : UInt64, z = FP.l2d v155 := ⟨_, rfl⟩
    obtain ⟨z3, qv156, h3⟩ := oL2DU ev156 (oLandMax ev155)
    have mv156 := oML2D ev156
    refine oW.l2d (pc' := 157) K at_156 ev156 rfl ?_
    refine oW.dstore (Ls' := #[.val (.int p0), .val (.int p1), .val (.long q2), .second, .val (.int p3), .val (.int tq), .val (.int (2 : Int32)), .val (.double v156), .second, .unset, .unset, .unset, .unset, .unset, .unset]) (pc' := 159) K at_157 rfl rfl ?_
    by_cases hz3 : z3 = 0
    · subst hz3
      refine oW.new (fs := [("com/example/likely_match/likelymatch/ranking/Bm25", "k1", "D", (.double (0 : UInt64))), ("com/example/likely_match/likelymatch/ranking/Bm25", "b", "D", (.double (0 : UInt64))), ("com/example/likely_match/likelymatch/ranking/Bm25", "idf", "Lcom/example/likely_match/likelymatch/ranking/Idf;", .null), ("com/example/likely_match/likelymatch/ranking/Bm25", "k3", "D", (.double (0 : UInt64)))]) (cells' := 1) (slots' := 4) (dsf := fun z => [(z, .inr ("com/example/likely_match/likelymatch/ranking/Bm25", [("com/example/likely_match/likelymatch/ranking/Bm25", "k1", "D", (.double (0 : UInt64))), ("com/example/likely_match/likelymatch/ranking/Bm25", "b", "D", (.double (0 : UInt64))), ("com/example/likely_match/likelymatch/ranking/Bm25", "idf", "Lcom/example/likely_match/likelymatch/ranking/Idf;", .null), ("com/example/likely_match/likelymatch/ranking/Bm25", "k3", "D", (.double (0 : UInt64)))]))]) (pc' := 162) K (hw _ (List.mem_of_getElem? (i := 5) rfl)) (hw _ (List.mem_of_getElem? (i := 6) rfl)) (hw _ (List.mem_of_getElem? (i := 7) rfl)) (oLd_0 hw) at_159 (by decide) (by decide) rfl rfl (fun _ => rfl) rfl ?_
      intro a159 ha159
      refine oW.dup (pc' := 163) K at_162 rfl rfl ?_
      refine oW.ldc2D (pc' := 166) K (hw _ (List.mem_of_getElem? (i := 8) rfl)) at_163 rfl ?_
      refine oW.ldc2D (pc' := 169) K (hw _ (List.mem_of_getElem? (i := 9) rfl)) at_166 rfl ?_
      refine oW.getst (pc' := 172) K (hw _ (List.mem_of_getElem? (i := 10) rfl)) hSt at_169 rfl ?_
      refine oW.dload (pc' := 174) K at_172 rfl rfl ?_
      refine oW.callI (a := a159) (argsL := [(.double (4609884578576439706 : UInt64)), (.double (4604930618986332160 : UInt64)), (.ref ia), (.double v156)]) (S := [(.ref a159)]) (rm := ({ frames := 2, cells := 2, slots := 16, locals := 60 } : Room)) (W := 1) (cells' := 3) (slots' := 20) (pc' := 177) K rfl (hw _ (List.mem_of_getElem? (i := 13) rfl)) (hw _ (List.mem_of_getElem? (i := 14) rfl)) (hw _ (List.mem_of_getElem? (i := 7) rfl)) (hw _ (List.mem_of_getElem? (i := 15) rfl)) (by decide) (own_init hw hEx (by unfold Jvm.Free.Fl.Fin64; decide) (by decide +kernel) (by decide +kernel) (by decide +kernel) (fun q => absurd ((qv156.cmp (oQ0 1074) rfl).1.mp q) (by omega))) (lenOf pd_2 rfl) at_174 rfl rfl (Nat.le_of_eq rfl) (by decide) (by decide) (by decide) (by decide) rfl rfl rfl ?_
      rintro _ rfl
      refine oW.astore (Ls' := #[.val (.int p0), .val (.int p1), .val (.long q2), .second, .val (.int p3), .val (.int tq), .val (.int (2 : Int32)), .val (.double v156), .second, .val (.ref a159), .unset, .unset, .unset, .unset, .unset]) (pc' := 179) K at_177 rfl rfl rfl ?_
      refine oW.aload (pc' := 181) K at_179 rfl rfl rfl ?_
      refine oW.iload (pc' := 183) K at_181 rfl rfl ?_
      refine oW.callV (a := a159) (argsL := [(.int tq)]) (S := []) (rm := ({ frames := 0, cells := 0, slots := 0, locals := 0 } : Room)) (W := 0) (cells' := 3) (slots' := 20) (pc' := 186) K (hw _ (List.mem_of_getElem? (i := 49) rfl)) (hw _ (List.mem_of_getElem? (i := 50) rfl)) (hw _ (List.mem_of_getElem? (i := 52) rfl)) (hw _ (List.mem_of_getElem? (i := 51) rfl)) (hw _ (List.mem_of_getElem? (i := 53) rfl)) (hw _ (List.mem_of_getElem? (i := 7) rfl)) (by decide) (oNF (hw _ (List.mem_of_getElem? (i := 52) rfl))) (fun _ M => oMem.exa (i := 0) rfl M) (own_qwP (nC := 1) (E := 0) hw hq hq1 (qv156.to0) rfl (by decide) (by decide)) (lenOf pd_3 rfl) at_183 rfl rfl (Nat.le_of_eq rfl) (by decide) (by decide) (by decide) (by decide) rfl rfl rfl ?_
      rintro _ _ ⟨wv, wN, wD, rfl, ew, qN, qD, nnw, rfl⟩
      have qw : oQ oU 1074 wv := ((qN.divx qD ew 1 0 (by omega) (by decide) (by decide) (by decide) (by decide) (by show nQ * 1 * 1 = 1 * ((1 + (nQ - 1)) * 1); omega)).u).cast rfl (Int.one_mul _)
      have hw0 : oU ≤ oU := Int.le_refl _
      refine oW.dstore (Ls' := #[.val (.int p0), .val (.int p1), .val (.long q2), .second, .val (.int p3), .val (.int tq), .val (.int (2 : Int32)), .val (.double v156), .second, .val (.ref a159), .val (.double wv), .second, .unset, .unset, .unset]) (pc' := 188) K at_186 rfl rfl ?_
      refine oW.iload (pc' := 190) K at_188 rfl rfl ?_
      refine oW.iconst (v := (1 : Int32)) (pc' := 191) K at_190 (by decide) rfl ?_
      refine oW.icmp_eq (pc' := 201) (pc3 := 194) K at_191 (by decide) (by decide) rfl (fun c191 => ?_) (fun c191 => ?_)
      · simp only [oLt32, oEq32, Int32.reduceToInt] at c191
        refine oW.dload (pc' := 203) K at_201 rfl rfl ?_
        refine oW.dconst1 (pc' := 204) K at_203 rfl ?_
        obtain ⟨v204, ev204⟩ : ∃ z : Int32, z = cmpValue (FP.dcmp wv (4607182418800017408 : UInt64)) .l := ⟨_, rfl⟩
        refine oW.dcmp (pc' := 205) K at_204 ev204 rfl ?_
        refine oW.if_ne (pc' := 212) (pc3 := 208) K at_205 (by decide) (by decide) rfl (fun q => absurd ((qw.cmp oQoneU ev204).2.1.mpr rfl) q) (fun c205 => ?_)
        refine oW.iconst (v := (1 : Int32)) (pc' := 209) K at_208 (by decide) rfl ?_
        refine oW.goto (pc' := 213) K at_209 (by decide) (by decide) ?_
        exact oW.retB K rfl at_213 (by decide) (by decide) ⟨_, rfl, rfl⟩
      · simp only [oLt32, oEq32, Int32.reduceToInt] at c191
        refine oW.dload (pc' := 196) K at_194 rfl rfl ?_
        refine oW.dconst0 (pc' := 197) K at_196 rfl ?_
        obtain ⟨v197, ev197⟩ : ∃ z : Int32, z = cmpValue (FP.dcmp v156 (0 : UInt64)) .l := ⟨_, rfl⟩
        refine oW.dcmp (pc' := 198) K at_197 ev197 rfl ?_
        refine oW.if_ne (pc' := 214) (pc3 := 201) K at_198 (by decide) (by decide) rfl (fun q => absurd ((qv156.cmp (oQ0 1074) ev197).2.1.mpr rfl) q) (fun c198 => ?_)
        refine oW.dload (pc' := 203) K at_201 rfl rfl ?_
        refine oW.dconst1 (pc' := 204) K at_203 rfl ?_
        obtain ⟨v204, ev204⟩ : ∃ z : Int32, z = cmpValue (FP.dcmp wv (4607182418800017408 : UInt64)) .l := ⟨_, rfl⟩
        refine oW.dcmp (pc' := 205) K at_204 ev204 rfl ?_
        refine oW.if_ne (pc' := 212) (pc3 := 208) K at_205 (by decide) (by decide) rfl (fun q => absurd ((qw.cmp oQoneU ev204).2.1.mpr rfl) q) (fun c205 => ?_)
        refine oW.iconst (v := (1 : Int32)) (pc' := 209) K at_208 (by decide) rfl ?_
        refine oW.goto (pc' := 213) K at_209 (by decide) (by decide) ?_
        exact oW.retB K rfl at_213 (by decide) (by decide) ⟨_, rfl, rfl⟩
    · skip
      refine oW.new (fs := [("com/example/likely_match/likelymatch/ranking/Bm25", "k1", "D", (.double (0 : UInt64))), ("com/example/likely_match/likelymatch/ranking/Bm25", "b", "D", (.double (0 : UInt64))), ("com/example/likely_match/likelymatch/ranking/Bm25", "idf", "Lcom/example/likely_match/likelymatch/ranking/Idf;", .null), ("com/example/likely_match/likelymatch/ranking/Bm25", "k3", "D", (.double (0 : UInt64)))]) (cells' := 1) (slots' := 4) (dsf := fun z => [(z, .inr ("com/example/likely_match/likelymatch/ranking/Bm25", [("com/example/likely_match/likelymatch/ranking/Bm25", "k1", "D", (.double (0 : UInt64))), ("com/example/likely_match/likelymatch/ranking/Bm25", "b", "D", (.double (0 : UInt64))), ("com/example/likely_match/likelymatch/ranking/Bm25", "idf", "Lcom/example/likely_match/likelymatch/ranking/Idf;", .null), ("com/example/likely_match/likelymatch/ranking/Bm25", "k3", "D", (.double (0 : UInt64)))]))]) (pc' := 162) K (hw _ (List.mem_of_getElem? (i := 5) rfl)) (hw _ (List.mem_of_getElem? (i := 6) rfl)) (hw _ (List.mem_of_getElem? (i := 7) rfl)) (oLd_0 hw) at_159 (by decide) (by decide) rfl rfl (fun _ => rfl) rfl ?_
      intro a159 ha159
      refine oW.dup (pc' := 163) K at_162 rfl rfl ?_
      refine oW.ldc2D (pc' := 166) K (hw _ (List.mem_of_getElem? (i := 8) rfl)) at_163 rfl ?_
      refine oW.ldc2D (pc' := 169) K (hw _ (List.mem_of_getElem? (i := 9) rfl)) at_166 rfl ?_
      refine oW.getst (pc' := 172) K (hw _ (List.mem_of_getElem? (i := 10) rfl)) hSt at_169 rfl ?_
      refine oW.dload (pc' := 174) K at_172 rfl rfl ?_
      refine oW.callI (a := a159) (argsL := [(.double (4609884578576439706 : UInt64)), (.double (4604930618986332160 : UInt64)), (.ref ia), (.double v156)]) (S := [(.ref a159)]) (rm := ({ frames := 2, cells := 2, slots := 16, locals := 60 } : Room)) (W := 1) (cells' := 3) (slots' := 20) (pc' := 177) K rfl (hw _ (List.mem_of_getElem? (i := 13) rfl)) (hw _ (List.mem_of_getElem? (i := 14) rfl)) (hw _ (List.mem_of_getElem? (i := 7) rfl)) (hw _ (List.mem_of_getElem? (i := 15) rfl)) (by decide) (own_init hw hEx (by unfold Jvm.Free.Fl.Fin64; decide) (by decide +kernel) (by decide +kernel) (by decide +kernel) (fun q => absurd ((qv156.cmp (oQ0 1074) rfl).1.mp q) (by omega))) (lenOf pd_2 rfl) at_174 rfl rfl (Nat.le_of_eq rfl) (by decide) (by decide) (by decide) (by decide) rfl rfl rfl ?_
      rintro _ rfl
      refine oW.astore (Ls' := #[.val (.int p0), .val (.int p1), .val (.long q2), .second, .val (.int p3), .val (.int tq), .val (.int (2 : Int32)), .val (.double v156), .second, .val (.ref a159), .unset, .unset, .unset, .unset, .unset]) (pc' := 179) K at_177 rfl rfl rfl ?_
      refine oW.aload (pc' := 181) K at_179 rfl rfl rfl ?_
      refine oW.iload (pc' := 183) K at_181 rfl rfl ?_
      refine oW.callV (a := a159) (argsL := [(.int tq)]) (S := []) (rm := ({ frames := 0, cells := 0, slots := 0, locals := 0 } : Room)) (W := 0) (cells' := 3) (slots' := 20) (pc' := 186) K (hw _ (List.mem_of_getElem? (i := 49) rfl)) (hw _ (List.mem_of_getElem? (i := 50) rfl)) (hw _ (List.mem_of_getElem? (i := 52) rfl)) (hw _ (List.mem_of_getElem? (i := 51) rfl)) (hw _ (List.mem_of_getElem? (i := 53) rfl)) (hw _ (List.mem_of_getElem? (i := 7) rfl)) (by decide) (oNF (hw _ (List.mem_of_getElem? (i := 52) rfl))) (fun _ M => oMem.exa (i := 0) rfl M) (own_qwA hw hq hq1 qv156 h3 mv156) (lenOf pd_3 rfl) at_183 rfl rfl (Nat.le_of_eq rfl) (by decide) (by decide) (by decide) (by decide) rfl rfl rfl ?_
      rintro _ _ ⟨wv, zw, rfl, qw, hw0, hw1, rfl⟩
      refine oW.dstore (Ls' := #[.val (.int p0), .val (.int p1), .val (.long q2), .second, .val (.int p3), .val (.int tq), .val (.int (2 : Int32)), .val (.double v156), .second, .val (.ref a159), .val (.double wv), .second, .unset, .unset, .unset]) (pc' := 188) K at_186 rfl rfl ?_
      refine oW.iload (pc' := 190) K at_188 rfl rfl ?_
      refine oW.iconst (v := (1 : Int32)) (pc' := 191) K at_190 (by decide) rfl ?_
      refine oW.icmp_eq (pc' := 201) (pc3 := 194) K at_191 (by decide) (by decide) rfl (fun c191 => ?_) (fun c191 => ?_)
      · simp only [oLt32, oEq32, Int32.reduceToInt] at c191
        refine oW.dload (pc' := 203) K at_201 rfl rfl ?_
        refine oW.dconst1 (pc' := 204) K at_203 rfl ?_
        obtain ⟨v204, ev204⟩ : ∃ z : Int32, z = cmpValue (FP.dcmp wv (4607182418800017408 : UInt64)) .l := ⟨_, rfl⟩
        refine oW.dcmp (pc' := 205) K at_204 ev204 rfl ?_
        refine oW.if_ne (pc' := 212) (pc3 := 208) K at_205 (by decide) (by decide) rfl (fun q => absurd ((qw.cmp oQoneU ev204).2.1.mpr (oOne (by have := oTs; omega) hw0 hw1)) q) (fun c205 => ?_)
        refine oW.iconst (v := (1 : Int32)) (pc' := 209) K at_208 (by decide) rfl ?_
        refine oW.goto (pc' := 213) K at_209 (by decide) (by decide) ?_
        exact oW.retB K rfl at_213 (by decide) (by decide) ⟨_, rfl, rfl⟩
      · simp only [oLt32, oEq32, Int32.reduceToInt] at c191
        refine oW.dload (pc' := 196) K at_194 rfl rfl ?_
        refine oW.dconst0 (pc' := 197) K at_196 rfl ?_
        obtain ⟨v197, ev197⟩ : ∃ z : Int32, z = cmpValue (FP.dcmp v156 (0 : UInt64)) .l := ⟨_, rfl⟩
        refine oW.dcmp (pc' := 198) K at_197 ev197 rfl ?_
        refine oW.if_ne (pc' := 214) (pc3 := 201) K at_198 (by decide) (by decide) rfl (fun c198 => ?_) (fun q => absurd ((qv156.cmp (oQ0 1074) ev197).2.1.mp q) hz3)
        refine oW.dconst1 (pc' := 215) K at_214 rfl ?_
        refine oW.dload (pc' := 217) K at_215 rfl rfl ?_
        obtain ⟨v217, ev217⟩ : ∃ z : Int32, z = cmpValue (FP.dcmp (4607182418800017408 : UInt64) wv) .g := ⟨_, rfl⟩
        refine oW.dcmp (pc' := 218) K at_217 ev217 rfl ?_
        refine oW.if_gt (pc' := 234) (pc3 := 221) K at_218 (by decide) (by decide) rfl (fun q => absurd ((oQoneU.cmp qw ev217).2.2.mp q) (by omega)) (fun c218 => ?_)
        refine oW.dload (pc' := 223) K at_221 rfl rfl ?_
        refine oW.iload (pc' := 225) K at_223 rfl rfl ?_
        obtain ⟨v225, ev225⟩ : ∃ z : UInt64, z = FP.i2d tq := ⟨_, rfl⟩
        have qv225 : oQ (nQ) (0) v225 := hq ▸ oQ.int (oI2D ev225)
        refine oW.i2d (pc' := 226) K at_225 ev225 rfl ?_
        obtain ⟨v226, ev226⟩ : ∃ z : Int32, z = cmpValue (FP.dcmp wv v225) .g := ⟨_, rfl⟩
        refine oW.dcmp (pc' := 227) K at_226 ev226 rfl ?_
        refine oW.if_gt (pc' := 234) (pc3 := 230) K at_227 (by decide) (by decide) rfl (fun q => absurd ((qw.cmp (qv225.u) ev226).2.2.mp q) (by omega)) (fun c227 => ?_)
        refine oW.iconst (v := (1 : Int32)) (pc' := 231) K at_230 (by decide) rfl ?_
        refine oW.goto (pc' := 235) K at_231 (by decide) (by decide) ?_
        exact oW.retB K rfl at_235 (by decide) (by decide) ⟨_, rfl, rfl⟩
  · subst hv13
    refine oW.iload (pc' := 18) K at_16 rfl rfl ?_
    refine oW.iconst (v := (1 : Int32)) (pc' := 19) K at_18 (by decide) rfl ?_
    refine oW.icmp_ne (pc' := 63) (pc3 := 22) K at_19 (by decide) (by decide) rfl (fun _ => ?_) (fun q => absurd q (by decide))
    refine oW.iload (pc' := 65) K at_63 rfl rfl ?_
    refine oW.if_eq (pc' := 74) (pc3 := 68) K at_65 (by decide) (by decide) rfl (fun q => absurd q (by decide)) (fun _ => ?_)
    refine oW.iload (pc' := 70) K at_68 rfl rfl ?_
    refine oW.iconst (v := (3 : Int32)) (pc' := 71) K at_70 (by decide) rfl ?_
    refine oW.icmp_ne (pc' := 151) (pc3 := 74) K at_71 (by decide) (by decide) rfl (fun q => absurd q (by decide)) (fun _ => ?_)
    refine oW.iloadN (pc' := 75) K at_74 rfl rfl ?_
    refine oW.bipush (v := (31 : Int32)) (pc' := 77) K at_75 (by decide) rfl ?_
    obtain ⟨v77, ev77⟩ : ∃ z : Int32, z = p1 &&& (31 : Int32) := ⟨_, rfl⟩
    refine oW.iand (pc' := 78) K at_77 ev77 rfl ?_
    refine oW.istore (Ls' := #[.val (.int p0), .val (.int p1), .val (.long q2), .second, .val (.int p3), .val (.int tq), .val (.int (3 : Int32)), .val (.int v77), .unset, .unset, .unset, .unset, .unset, .unset, .unset]) (pc' := 80) K at_78 rfl rfl ?_
    refine oW.lconst (v := (1 : Int64)) (pc' := 81) K at_80 (by decide) rfl ?_
    refine oW.iload (pc' := 83) K at_81 rfl rfl ?_
    obtain ⟨v83, ev83⟩ : ∃ z : Int64, z = (1 : Int64) <<< (v77.toInt64 &&& 63) := ⟨_, rfl⟩
    refine oW.lshl (pc' := 84) K at_83 ev83 rfl ?_
    have r77 := oMaskR 31 (by decide) ev77
    obtain ⟨E, hEe⟩ : ∃ E : Nat, v77.toInt = (E : Int) := ⟨v77.toInt.toNat, by omega⟩
    have tv83' := oShlL hEe (by omega) ev83
    obtain ⟨nC, hC⟩ : ∃ z : Int, ((2 ^ E : Nat) : Int) = z := ⟨_, rfl⟩
    have tv83 : v83.toInt = nC := tv83'.trans hC
    have hc2 : 1 ≤ nC ∧ nC ≤ 2147483648 := by have r5 : 2 ^ E ≤ 2 ^ 31 := Nat.pow_le_pow_right (by decide) (by omega); have r6 := Nat.two_pow_pos E; omega
    refine oW.lstore (Ls' := #[.val (.int p0), .val (.int p1), .val (.long q2), .second, .val (.int p3), .val (.int tq), .val (.int (3 : Int32)), .val (.int v77), .val (.long v83), .second, .unset, .unset, .unset, .unset, .unset]) (pc' := 86) K at_84 rfl rfl ?_
    refine oW.new (fs := [("com/example/likely_match/likelymatch/ranking/Bm25", "k1", "D", (.double (0 : UInt64))), ("com/example/likely_match/likelymatch/ranking/Bm25", "b", "D", (.double (0 : UInt64))), ("com/example/likely_match/likelymatch/ranking/Bm25", "idf", "Lcom/example/likely_match/likelymatch/ranking/Idf;", .null), ("com/example/likely_match/likelymatch/ranking/Bm25", "k3", "D", (.double (0 : UInt64)))]) (cells' := 1) (slots' := 4) (dsf := fun z => [(z, .inr ("com/example/likely_match/likelymatch/ranking/Bm25", [("com/example/likely_match/likelymatch/ranking/Bm25", "k1", "D", (.double (0 : UInt64))), ("com/example/likely_match/likelymatch/ranking/Bm25", "b", "D", (.double (0 : UInt64))), ("com/example/likely_match/likelymatch/ranking/Bm25", "idf", "Lcom/example/likely_match/likelymatch/ranking/Idf;", .null), ("com/example/likely_match/likelymatch/ranking/Bm25", "k3", "D", (.double (0 : UInt64)))]))]) (pc' := 89) K (hw _ (List.mem_of_getElem? (i := 5) rfl)) (hw _ (List.mem_of_getElem? (i := 6) rfl)) (hw _ (List.mem_of_getElem? (i := 7) rfl)) (oLd_0 hw) at_86 (by decide) (by decide) rfl rfl (fun _ => rfl) rfl ?_
    intro a86 ha86
    refine oW.dup (pc' := 90) K at_89 rfl rfl ?_
    refine oW.ldc2D (pc' := 93) K (hw _ (List.mem_of_getElem? (i := 8) rfl)) at_90 rfl ?_
    refine oW.ldc2D (pc' := 96) K (hw _ (List.mem_of_getElem? (i := 9) rfl)) at_93 rfl ?_
    refine oW.getst (pc' := 99) K (hw _ (List.mem_of_getElem? (i := 10) rfl)) hSt at_96 rfl ?_
    refine oW.lload (pc' := 101) K at_99 rfl rfl ?_
    refine oW.lconst (v := (1 : Int64)) (pc' := 102) K at_101 (by decide) rfl ?_
    obtain ⟨v102, ev102⟩ : ∃ z : Int64, z = v83 - (1 : Int64) := ⟨_, rfl⟩
    refine oW.lsub (pc' := 103) K at_102 ev102 rfl ?_
    have tv102 : v102.toInt = nC - 1 := by have h := oLsub ev102 (by have := oTs; omega); have := oTs; omega
    obtain ⟨v103, ev103⟩ : ∃ z : UInt64, z = FP.l2d v102 := ⟨_, rfl⟩
    have qv103 : oQ (nC - 1) (0) v103 := tv102 ▸ oQ.int (oL2D ev103 (by omega))
    refine oW.l2d (pc' := 104) K at_103 ev103 rfl ?_
    refine oW.callI (a := a86) (argsL := [(.double (4609884578576439706 : UInt64)), (.double (4604930618986332160 : UInt64)), (.ref ia), (.double v103)]) (S := [(.ref a86)]) (rm := ({ frames := 2, cells := 2, slots := 16, locals := 60 } : Room)) (W := 1) (cells' := 3) (slots' := 20) (pc' := 107) K rfl (hw _ (List.mem_of_getElem? (i := 13) rfl)) (hw _ (List.mem_of_getElem? (i := 14) rfl)) (hw _ (List.mem_of_getElem? (i := 7) rfl)) (hw _ (List.mem_of_getElem? (i := 15) rfl)) (by decide) (own_init hw hEx (by unfold Jvm.Free.Fl.Fin64; decide) (by decide +kernel) (by decide +kernel) (by decide +kernel) (fun q => absurd ((qv103.cmp (oQ0 0) rfl).1.mp q) (by omega))) (lenOf pd_2 rfl) at_104 rfl rfl (Nat.le_of_eq rfl) (by decide) (by decide) (by decide) (by decide) rfl rfl rfl ?_
    rintro _ rfl
    refine oW.astore (Ls' := #[.val (.int p0), .val (.int p1), .val (.long q2), .second, .val (.int p3), .val (.int tq), .val (.int (3 : Int32)), .val (.int v77), .val (.long v83), .second, .val (.ref a86), .unset, .unset, .unset, .unset]) (pc' := 109) K at_107 rfl rfl rfl ?_
    refine oW.aload (pc' := 111) K at_109 rfl rfl rfl ?_
    refine oW.iload (pc' := 113) K at_111 rfl rfl ?_
    refine oW.callV (a := a86) (argsL := [(.int tq)]) (S := []) (rm := ({ frames := 0, cells := 0, slots := 0, locals := 0 } : Room)) (W := 0) (cells' := 3) (slots' := 20) (pc' := 116) K (hw _ (List.mem_of_getElem? (i := 49) rfl)) (hw _ (List.mem_of_getElem? (i := 50) rfl)) (hw _ (List.mem_of_getElem? (i := 52) rfl)) (hw _ (List.mem_of_getElem? (i := 51) rfl)) (hw _ (List.mem_of_getElem? (i := 53) rfl)) (hw _ (List.mem_of_getElem? (i := 7) rfl)) (by decide) (oNF (hw _ (List.mem_of_getElem? (i := 52) rfl))) (fun _ M => oMem.exa (i := 0) rfl M) (own_qwP hw hq hq1 qv103 hC (by omega) hc2) (lenOf pd_3 rfl) at_113 rfl rfl (Nat.le_of_eq rfl) (by decide) (by decide) (by decide) (by decide) rfl rfl rfl ?_
    rintro _ _ ⟨wv, wN, wD, rfl, ew, qN, qD, nnw, rfl⟩
    refine oW.dstore (Ls' := #[.val (.int p0), .val (.int p1), .val (.long q2), .second, .val (.int p3), .val (.int tq), .val (.int (3 : Int32)), .val (.int v77), .val (.long v83), .second, .val (.ref a86), .val (.double wv), .second, .unset, .unset]) (pc' := 118) K at_116 rfl rfl ?_
    refine oW.iload (pc' := 120) K at_118 rfl rfl ?_
    obtain ⟨v120, ev120⟩ : ∃ z : UInt64, z = FP.i2d tq := ⟨_, rfl⟩
    have qv120 : oQ (nQ) (0) v120 := hq ▸ oQ.int (oI2D ev120)
    refine oW.i2d (pc' := 121) K at_120 ev120 rfl ?_
    refine oW.lload (pc' := 123) K at_121 rfl rfl ?_
    obtain ⟨v123, ev123⟩ : ∃ z : UInt64, z = FP.l2d v83 := ⟨_, rfl⟩
    have qv123 : oQ (nC) (0) v123 := tv83 ▸ oQ.int (oL2D ev123 (by omega))
    refine oW.l2d (pc' := 124) K at_123 ev123 rfl ?_
    obtain ⟨v124, ev124⟩ : ∃ z : UInt64, z = FP.dmul v120 v123 := ⟨_, rfl⟩
    have qv124 : oQ (nQ * nC) (0) v124 := qv120.mulpow qv123 ev124 hC (by omega) (by omega)
    refine oW.dmul (pc' := 125) K at_124 ev124 (qv124.nn) rfl ?_
    refine oW.lload (pc' := 127) K at_125 rfl rfl ?_
    refine oW.iload (pc' := 129) K at_127 rfl rfl ?_
    obtain ⟨v129, ev129⟩ : ∃ z : Int64, z = tq.toInt64 := ⟨_, rfl⟩
    refine oW.i2l (pc' := 130) K at_129 ev129 rfl ?_
    have tv129 : v129.toInt = nQ := (oI2L ev129).trans hq
    obtain ⟨v130, ev130⟩ : ∃ z : Int64, z = v83 + v129 := ⟨_, rfl⟩
    refine oW.ladd (pc' := 131) K at_130 ev130 rfl ?_
    have tv130 : v130.toInt = nC + nQ := by have h := oLadd ev130 (by omega); omega
    refine oW.lconst (v := (1 : Int64)) (pc' := 132) K at_131 (by decide) rfl ?_
    obtain ⟨v132, ev132⟩ : ∃ z : Int64, z = v130 - (1 : Int64) := ⟨_, rfl⟩
    refine oW.lsub (pc' := 133) K at_132 ev132 rfl ?_
    have tv132 : v132.toInt = nC + (nQ - 1) := by have h := oLsub ev132 (by have := oTs; omega); have := oTs; omega
    obtain ⟨v133, ev133⟩ : ∃ z : UInt64, z = FP.l2d v132 := ⟨_, rfl⟩
    have qv133 : oQ (nC + (nQ - 1)) (0) v133 := tv132 ▸ oQ.int (oL2D ev133 (by omega))
    refine oW.l2d (pc' := 134) K at_133 ev133 rfl ?_
    obtain ⟨v134, ev134⟩ : ∃ z : UInt64, z = FP.ddiv v124 v133 := ⟨_, rfl⟩
    have nn134 := qv124.divnn qv133 ev134 (by omega) (by decide) (by decide)
    refine oW.ddiv (pc' := 135) K at_134 ev134 (nn134) rfl ?_
    refine oW.dstore (Ls' := #[.val (.int p0), .val (.int p1), .val (.long q2), .second, .val (.int p3), .val (.int tq), .val (.int (3 : Int32)), .val (.int v77), .val (.long v83), .second, .val (.ref a86), .val (.double wv), .second, .val (.double v134), .second]) (pc' := 137) K at_135 rfl rfl ?_
    refine oW.dload (pc' := 139) K at_137 rfl rfl ?_
    refine oW.dload (pc' := 141) K at_139 rfl rfl ?_
    obtain ⟨v141, ev141⟩ : ∃ z : Int32, z = cmpValue (FP.dcmp wv v134) .l := ⟨_, rfl⟩
    refine oW.dcmp (pc' := 142) K at_141 ev141 rfl ?_
    refine oW.if_ne (pc' := 149) (pc3 := 145) K at_142 (by decide) (by decide) rfl (fun q => absurd (qN.divcmp qD ew qv124 qv133 ev134 ev141 (by omega) (by omega) (by decide) (by omega) (by decide) (by decide) (oC2 hC rfl)) q) (fun c142 => ?_)
    refine oW.iconst (v := (1 : Int32)) (pc' := 146) K at_145 (by decide) rfl ?_
    refine oW.goto (pc' := 150) K at_146 (by decide) (by decide) ?_
    exact oW.retB K rfl at_150 (by decide) (by decide) ⟨_, rfl, rfl⟩
set_option maxRecDepth 65536 in
set_option maxHeartbeats 40000000 in
theorem comes_1 {Post : Tables → Env → Array Value → State → Outcome → State → Prop} (hpost : ∀ tb e args s v u, (limb_1_1.after args s (.returned v) u = true ∧ limb_1_2.after args s (.returned v) u = true ∧ True) → ReturnedEndW s (.returned v) u (Jvm.fieldLocs frame_1_writes args s ++ Jvm.arrayLocs frame_1_arrays args s ++ Jvm.staticLocs frame_1_statics s) 16 1152 → Post tb e args s (.returned v) u) :
    ArmFor flags0 classFile x code maxLocals ret World_1 tables_1 room_1 Calls_1 rest_1 Pre_1 Post := by
  intro l hfl _ _ p e ha hc hk s m args below hf hA hF happ hP
  obtain ⟨hcalls, hrest, hpre⟩ := hP
  obtain ⟨-, -, -, hnamed, -, -, -, hat⟩ := (Spec.applies_iff hf).mp happ
  obtain ⟨hg, hn⟩ := and_e (Cond.before_iff.mp (show (Jvm.Cond.and given_1 narrow_1).before args s = true from hpre))
  obtain ⟨hcount, g0⟩ := and_e hg
  obtain ⟨k0, g1⟩ := and_e g0
  obtain ⟨k1, g2⟩ := and_e g1
  obtain ⟨k2, g3⟩ := and_e g2
  obtain ⟨w0, w1, w2, w3, rfl⟩ : ∃ w0 w1 w2 w3 : Value, args = #[w0, w1, w2, w3] := by
    have hs : args.size = 4 := by simpa [Cond.value, given_1] using hcount
    obtain ⟨L⟩ := args
    match L, hs with
    | [w0, w1, w2, w3], _ => exact ⟨w0, w1, w2, w3, rfl⟩
  have hw := fun d (hd : d ∈ tables_1) => atoms_spec (ws := Jvm.Cond.code x code maxLocals ret :: tables_1) hat d (List.mem_cons_of_mem _ hd)
  obtain ⟨i0, ei0⟩ := is_v k0
  obtain rfl : w0 = (.int i0) := Option.some.inj ei0
  obtain ⟨i1, ei1⟩ := is_v k1
  obtain rfl : w1 = (.int i1) := Option.some.inj ei1
  obtain ⟨i2, ei2⟩ := isL_v k2
  obtain rfl : w2 = (.long i2) := Option.some.inj ei2
  obtain ⟨i3, ei3⟩ := is_v g3
  obtain rfl : w3 = (.int i3) := Option.some.inj ei3
  obtain ⟨ia, _, _, _, evs, _⟩ := Cond.exactly_spec (Cond.before_iff.mpr hn)
  have hSt := Sta.start evs (Or.inr ⟨(hw _ (List.mem_of_getElem? (i := 11) rfl)), (hw _ (List.mem_of_getElem? (i := 12) rfl))⟩)
  have hEx := Exa.start evs hn
  obtain ⟨n, o, h1, h2, h3, _, L, rfl, ⟨N, _, ⟨_, rfl, rfl⟩, _⟩, hq⟩ := (own_law (l := l) (h0 := s.heap) hw hSt hEx i0 i1 i2 i3) s.heap (oMem.start s s.heap) p e ha hc hk s m _ below hf ((Spec.applies_iff_loose hf).mp happ).1 ⟨rfl, State.Warmed39.refl s, rfl⟩ trivial
  refine ⟨n, _, h1, h2, h3, hpost _ _ _ _ _ _ ⟨Cond.after_iff.mpr rfl, Cond.after_iff.mpr (eq_i res_at (Term.int_eval (1)) rfl), trivial⟩ ⟨hq.1, hq.2.1, hq.2.2.1, (hq.2.2.2.sift fun y hy => Or.inr (N y hy)).mono (by decide) (by decide)⟩⟩
theorem main_1_1 : Claimed_1_1 := comes_1 fun _ _ _ _ _ _ h hF => ⟨h.1, hF⟩
theorem main_1_2 : Claimed_1_2 := comes_1 fun _ _ _ _ _ _ h hF => ⟨h.2.1, hF⟩
end Jvm.Pilot.@@N@@
namespace Jvm.Pilot.@@N@@
open Jvm Jvm.ClassFile Sem Op Lib Jvm.Free Jvm.Stand Jvm.Pilot.@@N@@.Jvm.D
/-! MADE BY PROGRAM (witnessworld.py) out of the Statement's table words and the real class files: 21 classes; the members and pool entries that the words name. The judged class is class 1, her method 1. -/
namespace start1
open Jvm.ClassFile
def u (s : String) : CpInfo := .utf8 (stringToUtf16 s)
/-- a pool by its gaps: so many unusable entries, then the entry; so many at the end -/
def gap : Nat → List CpInfo → List CpInfo
  | 0, r => r
  | n + 1, r => .unusable :: gap n r
def poolList (es : List (Nat × CpInfo)) (last : Nat) : List CpInfo := es.foldr (fun e r => gap e.1 (e.2 :: r)) (gap last [])
def pool (es : List (Nat × CpInfo)) (last : Nat) : Array CpInfo := ⟨poolList es last⟩
def fileOf (pool : Array CpInfo) (this : Nat) (attrs : Array Attribute := #[]) (ms : Array MethodInfo := #[]) (fl : Nat := 33) (sup : Nat := 0) (ifs : Array Nat := #[]) (fds : Array FieldInfo := #[]) : ClassFile where
  minorVersion := 0
  majorVersion := 65
  constantPool := pool
  accessFlags := fl
  thisClass := this
  superClass := sup
  interfaces := ifs
  fields := fds
  methods := ms
  attributes := attrs
def plain (name : String) (sup : Option ClassId) : Class where
  name := name
  kind := .ordinary
  loader := none
  accessFlags := 33
  super := sup
  interfaces := #[]
  cf := none
  fields := #[]
  methods := #[]
  instanceTypes := #[]
  staticTypes := #[]
  resolved := #[]
  callSites := []
  init := .initialized
  statics := none
  mirror := none

def pool0 : Array CpInfo := pool [(5, u "<init>"), (0, u "()V"), (1, .class_ 10), (1, u "java/lang/Object")] 113

def k0c0 : Code := { maxStack := 0, maxLocals := 1, code := object_method_1_code, exceptionTable := #[], attributes := #[] }
def k0m0 : Method := { name := "<init>", desc := "()V", sig := { parameters := [], returnType := none }, accessFlags := 1, code := some k0c0 }
/-- java/lang/Object -/
def k0 : Class := { plain "java/lang/Object" none with
  accessFlags := 33
  interfaces := #[]
  cf := some (fileOf pool0 8 #[] #[{ accessFlags := 1, nameIndex := 5, descriptorIndex := 6, attributes := #[] }] 33 0 #[] #[])
  fields := #[]
  methods := #[k0m0]
  instanceTypes := #[]
  staticTypes := #[]
  resolved := Array.replicate 124 none
  statics := none }

def pool1 : Array CpInfo := pool [(2, .class_ 4), (1, u "java/lang/Object"), (0, u "<init>"), (0, u "()V"), (0, .integer 2147483647), (0, .methodref 9 10), (0, .class_ 11), (0, .nameAndType 12 13), (0, u "java/lang/Math"), (0, u "max"), (0, u "(II)I"), (0, .class_ 15), (0, u "com/example/likely_match/likelymatch/ranking/Bm25"), (0, .double 4609884578576439706), (1, .double 4604930618986332160), (1, .fieldref 21 22), (0, .class_ 23), (0, .nameAndType 24 25), (0, u "com/example/likely_match/likelymatch/ranking/Idf"), (0, u "PLAIN"), (0, u "Lcom/example/likely_match/likelymatch/ranking/Idf;"), (0, .double 9218868437227405312), (1, .methodref 14 29), (0, .nameAndType 5 30), (0, u "(DDLcom/example/likely_match/likelymatch/ranking/Idf;D)V"), (0, .methodref 14 32), (0, .nameAndType 33 34), (0, u "queryWeight"), (0, u "(I)D"), (2, .long 9223372036854775807), (1, .class_ 40), (0, u "com/example/likely_match/likelymatch/ranking/Bm25QueryWeightPinLaw"), (2, u "law"), (0, u "(IIJI)Z")] 3

def k1m0 : Method := { name := "<init>", desc := "()V", sig := { parameters := [], returnType := none }, accessFlags := 1, code := none }
def k1c1 : Code := { maxStack := 11, maxLocals := 15, code := code, exceptionTable := #[], attributes := #[] }
def k1m1 : Method := { name := "law", desc := "(IIJI)Z", sig := { parameters := [.int, .int, .long, .int], returnType := some .boolean }, accessFlags := 9, code := some k1c1 }
/-- com/example/likely_match/likelymatch/ranking/Bm25QueryWeightPinLaw -/
def k1 : Class := { plain "com/example/likely_match/likelymatch/ranking/Bm25QueryWeightPinLaw" (some 0) with
  accessFlags := 49
  interfaces := #[]
  cf := some (fileOf pool1 39 #[] #[{ accessFlags := 1, nameIndex := 5, descriptorIndex := 6, attributes := #[] }, { accessFlags := 9, nameIndex := 43, descriptorIndex := 44, attributes := #[] }] 49 2 #[] #[])
  fields := #[]
  methods := #[k1m0, k1m1]
  instanceTypes := #[]
  staticTypes := #[]
  resolved := Array.replicate 48 none
  statics := none }

def pool2 : Array CpInfo := pool [(1, .class_ 2), (0, u "java/lang/Math"), (1, .class_ 6), (1, u "java/lang/Object"), (0, u "<init>"), (0, u "()V"), (5, u "(D)D"), (83, .class_ 100), (1, u "java/lang/Math$RandomNumberGeneratorHolder"), (23, u "abs"), (47, u "negativeZeroFloatBits"), (0, u "J"), (2, u "negativeZeroDoubleBits"), (21, u "max"), (46, u "$assertionsDisabled"), (0, u "Z"), (88, u "(II)I"), (2, u "twoToTheDoubleScaleDown"), (0, u "D"), (4, u "twoToTheDoubleScaleUp"), (9, u "E"), (3, u "PI"), (2, u "TAU"), (2, u "DEGREES_TO_RADIANS"), (0, u "RADIANS_TO_DEGREES")] 94

def k2m0 : Method := { name := "<init>", desc := "()V", sig := { parameters := [], returnType := none }, accessFlags := 2, code := none }
def k2c1 : Code := { maxStack := 4, maxLocals := 2, code := jdk_29_method_64_code, exceptionTable := #[], attributes := #[] }
def k2m1 : Method := { name := "abs", desc := "(D)D", sig := { parameters := [.double], returnType := some .double }, accessFlags := 9, code := some k2c1 }
def k2c2 : Code := { maxStack := 2, maxLocals := 2, code := jdk_29_method_65_code, exceptionTable := #[], attributes := #[] }
def k2m2 : Method := { name := "max", desc := "(II)I", sig := { parameters := [.int, .int], returnType := some .int }, accessFlags := 9, code := some k2c2 }
/-- java/lang/Math -/
def k2 : Class := { plain "java/lang/Math" (some 0) with
  accessFlags := 49
  interfaces := #[]
  cf := some (fileOf pool2 1 #[.nestMembers #[98]] #[{ accessFlags := 2, nameIndex := 7, descriptorIndex := 8, attributes := #[] }, { accessFlags := 9, nameIndex := 124, descriptorIndex := 14, attributes := #[] }, { accessFlags := 9, nameIndex := 198, descriptorIndex := 335, attributes := #[] }] 49 4 #[] #[{ accessFlags := 25, nameIndex := 354, descriptorIndex := 339, attributes := #[] }, { accessFlags := 25, nameIndex := 358, descriptorIndex := 339, attributes := #[] }, { accessFlags := 25, nameIndex := 361, descriptorIndex := 339, attributes := #[] }, { accessFlags := 26, nameIndex := 364, descriptorIndex := 339, attributes := #[] }, { accessFlags := 26, nameIndex := 365, descriptorIndex := 339, attributes := #[] }, { accessFlags := 26, nameIndex := 172, descriptorIndex := 173, attributes := #[] }, { accessFlags := 26, nameIndex := 176, descriptorIndex := 173, attributes := #[] }, { accessFlags := 8, nameIndex := 344, descriptorIndex := 339, attributes := #[] }, { accessFlags := 8, nameIndex := 338, descriptorIndex := 339, attributes := #[] }, { accessFlags := 4120, nameIndex := 245, descriptorIndex := 246, attributes := #[] }])
  fields := #[{ name := "E", type := .double, accessFlags := 25, slot := 0, constantValue := 0 }, { name := "PI", type := .double, accessFlags := 25, slot := 1, constantValue := 0 }, { name := "TAU", type := .double, accessFlags := 25, slot := 2, constantValue := 0 }, { name := "DEGREES_TO_RADIANS", type := .double, accessFlags := 26, slot := 3, constantValue := 0 }, { name := "RADIANS_TO_DEGREES", type := .double, accessFlags := 26, slot := 4, constantValue := 0 }, { name := "negativeZeroFloatBits", type := .long, accessFlags := 26, slot := 5, constantValue := 0 }, { name := "negativeZeroDoubleBits", type := .long, accessFlags := 26, slot := 6, constantValue := 0 }, { name := "twoToTheDoubleScaleUp", type := .double, accessFlags := 8, slot := 7, constantValue := 0 }, { name := "twoToTheDoubleScaleDown", type := .double, accessFlags := 8, slot := 8, constantValue := 0 }, { name := "$assertionsDisabled", type := .boolean, accessFlags := 4120, slot := 9, constantValue := 0 }]
  methods := #[k2m0, k2m1, k2m2]
  instanceTypes := #[]
  staticTypes := #[.double, .double, .double, .double, .double, .long, .long, .double, .double, .boolean]
  resolved := Array.replicate 460 none
  statics := none }

def pool3 : Array CpInfo := pool [(1, .class_ 2), (0, u "com/example/likely_match/likelymatch/ranking/Model"), (0, .class_ 4), (0, u "java/lang/Object")] 6

/-- com/example/likely_match/likelymatch/ranking/Model -/
def k3 : Class := { plain "com/example/likely_match/likelymatch/ranking/Model" (some 0) with
  accessFlags := 1537
  interfaces := #[]
  cf := some (fileOf pool3 1 #[] #[] 1537 3 #[] #[])
  fields := #[]
  methods := #[]
  instanceTypes := #[]
  staticTypes := #[]
  resolved := Array.replicate 11 none
  statics := none }

def pool4 : Array CpInfo := pool [(1, .class_ 2), (0, u "java/lang/Double"), (1, .class_ 6), (1, u "com/example/likely_match/likelymatch/ranking/Bm25"), (0, u "DEFAULT_IDF"), (0, u "Lcom/example/likely_match/likelymatch/ranking/Idf;"), (4, u "<init>"), (0, u "(DDLcom/example/likely_match/likelymatch/ranking/Idf;D)V"), (0, .methodref 16 17), (0, .class_ 18), (0, .nameAndType 13 19), (0, u "java/lang/Object"), (0, u "()V"), (0, .methodref 1 21), (0, .nameAndType 22 23), (0, u "isInfinite"), (0, u "(D)Z"), (11, .fieldref 4 36), (0, .nameAndType 37 38), (0, u "k1"), (0, u "D"), (0, .fieldref 4 40), (0, .nameAndType 41 38), (0, u "b"), (0, .string 43), (0, u "idf"), (0, .methodref 45 46), (0, .class_ 47), (0, .nameAndType 48 49), (0, u "java/util/Objects"), (0, u "requireNonNull"), (0, u "(Ljava/lang/Object;Ljava/lang/String;)Ljava/lang/Object;"), (0, .class_ 51), (0, u "com/example/likely_match/likelymatch/ranking/Idf"), (0, .fieldref 4 53), (0, .nameAndType 43 8), (0, .fieldref 4 55), (0, .nameAndType 56 38), (0, u "k3"), (96, u "queryWeight"), (0, u "(I)D"), (47, .class_ 203), (0, u "com/example/likely_match/likelymatch/ranking/Model"), (0, u "DEFAULT_K1"), (3, u "DEFAULT_B"), (2, u "DEFAULT_K3")] 47

def k4c0 : Code := { maxStack := 4, maxLocals := 8, code := prog_43_method_2_code, exceptionTable := #[], attributes := #[] }
def k4m0 : Method := { name := "<init>", desc := "(DDLcom/example/likely_match/likelymatch/ranking/Idf;D)V", sig := { parameters := [.double, .double, (.object "com/example/likely_match/likelymatch/ranking/Idf"), .double], returnType := none }, accessFlags := 1, code := some k4c0 }
def k4c1 : Code := { maxStack := 10, maxLocals := 2, code := prog_43_method_3_code, exceptionTable := #[], attributes := #[] }
def k4m1 : Method := { name := "queryWeight", desc := "(I)D", sig := { parameters := [.int], returnType := some .double }, accessFlags := 1, code := some k4c1 }
/-- com/example/likely_match/likelymatch/ranking/Bm25 -/
def k4 : Class := { plain "com/example/likely_match/likelymatch/ranking/Bm25" (some 0) with
  accessFlags := 49
  interfaces := #[3]
  cf := some (fileOf pool4 4 #[] #[{ accessFlags := 1, nameIndex := 13, descriptorIndex := 14, attributes := #[] }, { accessFlags := 1, nameIndex := 153, descriptorIndex := 154, attributes := #[] }] 49 16 #[202] #[{ accessFlags := 25, nameIndex := 204, descriptorIndex := 38, attributes := #[] }, { accessFlags := 25, nameIndex := 208, descriptorIndex := 38, attributes := #[] }, { accessFlags := 25, nameIndex := 7, descriptorIndex := 8, attributes := #[] }, { accessFlags := 25, nameIndex := 211, descriptorIndex := 38, attributes := #[] }, { accessFlags := 18, nameIndex := 37, descriptorIndex := 38, attributes := #[] }, { accessFlags := 18, nameIndex := 41, descriptorIndex := 38, attributes := #[] }, { accessFlags := 18, nameIndex := 43, descriptorIndex := 8, attributes := #[] }, { accessFlags := 18, nameIndex := 56, descriptorIndex := 38, attributes := #[] }])
  fields := #[{ name := "DEFAULT_K1", type := .double, accessFlags := 25, slot := 0, constantValue := 0 }, { name := "DEFAULT_B", type := .double, accessFlags := 25, slot := 1, constantValue := 0 }, { name := "DEFAULT_IDF", type := (.object "com/example/likely_match/likelymatch/ranking/Idf"), accessFlags := 25, slot := 2, constantValue := 0 }, { name := "DEFAULT_K3", type := .double, accessFlags := 25, slot := 3, constantValue := 0 }, { name := "k1", type := .double, accessFlags := 18, slot := 0, constantValue := 0 }, { name := "b", type := .double, accessFlags := 18, slot := 1, constantValue := 0 }, { name := "idf", type := (.object "com/example/likely_match/likelymatch/ranking/Idf"), accessFlags := 18, slot := 2, constantValue := 0 }, { name := "k3", type := .double, accessFlags := 18, slot := 3, constantValue := 0 }]
  methods := #[k4m0, k4m1]
  instanceTypes := #[.double, .double, (.object "com/example/likely_match/likelymatch/ranking/Idf"), .double]
  staticTypes := #[.double, .double, (.object "com/example/likely_match/likelymatch/ranking/Idf"), .double]
  resolved := Array.replicate 259 none
  statics := none }

def pool5 : Array CpInfo := pool [(1, .class_ 2), (0, u "java/lang/constant/Constable"), (0, .class_ 4), (0, u "java/lang/Object")] 6

/-- java/lang/constant/Constable -/
def k5 : Class := { plain "java/lang/constant/Constable" (some 0) with
  accessFlags := 1537
  interfaces := #[]
  cf := some (fileOf pool5 1 #[] #[] 1537 3 #[] #[])
  fields := #[]
  methods := #[]
  instanceTypes := #[]
  staticTypes := #[]
  resolved := Array.replicate 11 none
  statics := none }

def pool6 : Array CpInfo := pool [(1, .class_ 2), (0, u "java/lang/Comparable"), (0, .class_ 4), (0, u "java/lang/Object")] 7

/-- java/lang/Comparable -/
def k6 : Class := { plain "java/lang/Comparable" (some 0) with
  accessFlags := 1537
  interfaces := #[]
  cf := some (fileOf pool6 1 #[] #[] 1537 3 #[] #[])
  fields := #[]
  methods := #[]
  instanceTypes := #[]
  staticTypes := #[]
  resolved := Array.replicate 12 none
  statics := none }

def pool7 : Array CpInfo := pool [(1, .class_ 2), (0, u "java/io/Serializable"), (0, .class_ 4), (0, u "java/lang/Object")] 2

/-- java/io/Serializable -/
def k7 : Class := { plain "java/io/Serializable" (some 0) with
  accessFlags := 1537
  interfaces := #[]
  cf := some (fileOf pool7 1 #[] #[] 1537 3 #[] #[])
  fields := #[]
  methods := #[]
  instanceTypes := #[]
  staticTypes := #[]
  resolved := Array.replicate 7 none
  statics := none }

def pool8 : Array CpInfo := pool [(2, .class_ 4), (1, u "java/lang/Enum"), (0, u "name"), (0, u "Ljava/lang/String;"), (2, u "ordinal"), (0, u "I"), (1, .class_ 14), (1, u "java/lang/Object"), (4, u "hash"), (86, .class_ 108), (1, u "java/lang/Enum$EnumDesc"), (2, .class_ 112), (0, u "java/lang/constant/Constable"), (0, .class_ 114), (0, u "java/lang/Comparable"), (0, .class_ 116), (0, u "java/io/Serializable")] 87

/-- java/lang/Enum -/
def k8 : Class := { plain "java/lang/Enum" (some 0) with
  accessFlags := 1057
  interfaces := #[5, 6, 7]
  cf := some (fileOf pool8 2 #[.nestMembers #[106]] #[] 1057 12 #[111, 113, 115] #[{ accessFlags := 18, nameIndex := 5, descriptorIndex := 6, attributes := #[] }, { accessFlags := 18, nameIndex := 9, descriptorIndex := 10, attributes := #[] }, { accessFlags := 2, nameIndex := 19, descriptorIndex := 10, attributes := #[] }])
  fields := #[{ name := "name", type := (.object "java/lang/String"), accessFlags := 18, slot := 0, constantValue := 0 }, { name := "ordinal", type := .int, accessFlags := 18, slot := 1, constantValue := 0 }, { name := "hash", type := .int, accessFlags := 2, slot := 2, constantValue := 0 }]
  methods := #[]
  instanceTypes := #[(.object "java/lang/String"), .int, .int]
  staticTypes := #[]
  resolved := Array.replicate 204 none
  statics := none }

def pool9 : Array CpInfo := pool [(1, .class_ 2), (0, u "com/example/likely_match/likelymatch/ranking/Idf"), (2, u "PLAIN"), (0, u "Lcom/example/likely_match/likelymatch/ranking/Idf;"), (2, u "RSJ"), (2, u "RSJ_FLOOR"), (2, u "RSJ_PLUS1"), (2, u "$VALUES"), (0, u "[Lcom/example/likely_match/likelymatch/ranking/Idf;"), (6, .class_ 28), (1, u "java/lang/Enum")] 101

/-- com/example/likely_match/likelymatch/ranking/Idf -/
def k9 : Class := { plain "com/example/likely_match/likelymatch/ranking/Idf" (some 8) with
  accessFlags := 16433
  interfaces := #[]
  cf := some (fileOf pool9 1 #[] #[] 16433 26 #[] #[{ accessFlags := 16409, nameIndex := 5, descriptorIndex := 6, attributes := #[] }, { accessFlags := 16409, nameIndex := 9, descriptorIndex := 6, attributes := #[] }, { accessFlags := 16409, nameIndex := 12, descriptorIndex := 6, attributes := #[] }, { accessFlags := 16409, nameIndex := 15, descriptorIndex := 6, attributes := #[] }, { accessFlags := 4122, nameIndex := 18, descriptorIndex := 19, attributes := #[] }])
  fields := #[{ name := "PLAIN", type := (.object "com/example/likely_match/likelymatch/ranking/Idf"), accessFlags := 16409, slot := 0, constantValue := 0 }, { name := "RSJ", type := (.object "com/example/likely_match/likelymatch/ranking/Idf"), accessFlags := 16409, slot := 1, constantValue := 0 }, { name := "RSJ_FLOOR", type := (.object "com/example/likely_match/likelymatch/ranking/Idf"), accessFlags := 16409, slot := 2, constantValue := 0 }, { name := "RSJ_PLUS1", type := (.object "com/example/likely_match/likelymatch/ranking/Idf"), accessFlags := 16409, slot := 3, constantValue := 0 }, { name := "$VALUES", type := (.array (.object "com/example/likely_match/likelymatch/ranking/Idf")), accessFlags := 4122, slot := 4, constantValue := 0 }]
  methods := #[]
  instanceTypes := #[(.object "java/lang/String"), .int, .int]
  staticTypes := #[(.object "com/example/likely_match/likelymatch/ranking/Idf"), (.object "com/example/likely_match/likelymatch/ranking/Idf"), (.object "com/example/likely_match/likelymatch/ranking/Idf"), (.object "com/example/likely_match/likelymatch/ranking/Idf"), (.array (.object "com/example/likely_match/likelymatch/ranking/Idf"))]
  resolved := Array.replicate 130 none
  statics := some 0 }

def pool10 : Array CpInfo := pool [(2, .class_ 4), (1, u "java/lang/Object"), (0, u "<init>"), (0, u "()V"), (1, .class_ 10), (1, u "java/lang/Number"), (2, .class_ 14), (0, u "java/io/Serializable"), (0, u "serialVersionUID"), (0, u "J")] 20

def k10m0 : Method := { name := "<init>", desc := "()V", sig := { parameters := [], returnType := none }, accessFlags := 1, code := none }
/-- java/lang/Number -/
def k10 : Class := { plain "java/lang/Number" (some 0) with
  accessFlags := 1057
  interfaces := #[7]
  cf := some (fileOf pool10 8 #[] #[{ accessFlags := 1, nameIndex := 5, descriptorIndex := 6, attributes := #[] }] 1057 2 #[13] #[{ accessFlags := 26, nameIndex := 15, descriptorIndex := 16, attributes := #[] }])
  fields := #[{ name := "serialVersionUID", type := .long, accessFlags := 26, slot := 0, constantValue := 0 }]
  methods := #[k10m0]
  instanceTypes := #[]
  staticTypes := #[.long]
  resolved := Array.replicate 37 none
  statics := none }

def pool11 : Array CpInfo := pool [(1, .class_ 2), (0, u "java/lang/constant/ConstantDesc"), (0, .class_ 4), (0, u "java/lang/Object")] 32

/-- java/lang/constant/ConstantDesc -/
def k11 : Class := { plain "java/lang/constant/ConstantDesc" (some 0) with
  accessFlags := 1537
  interfaces := #[]
  cf := some (fileOf pool11 1 #[] #[] 1537 3 #[] #[])
  fields := #[]
  methods := #[]
  instanceTypes := #[]
  staticTypes := #[]
  resolved := Array.replicate 37 none
  statics := none }

def pool12 : Array CpInfo := pool [(1, .class_ 2), (0, u "java/lang/Double"), (11, u "(D)Z"), (8, .class_ 25), (1, u "java/lang/Math"), (12, .methodref 23 39), (0, .nameAndType 40 41), (0, u "abs"), (0, u "(D)D"), (69, .double 9218868437227405311), (2, .class_ 116), (1, u "java/lang/Number"), (3, u "value"), (0, u "D"), (5, u "isInfinite"), (45, u "TYPE"), (0, u "Ljava/lang/Class;"), (0, .class_ 176), (0, u "java/lang/Comparable"), (0, .class_ 178), (0, u "java/lang/constant/Constable"), (0, .class_ 180), (0, u "java/lang/constant/ConstantDesc"), (0, u "POSITIVE_INFINITY"), (3, u "NEGATIVE_INFINITY"), (2, u "NaN"), (2, u "MAX_VALUE"), (0, u "MIN_NORMAL"), (0, u "MIN_VALUE"), (2, u "SIZE"), (0, u "I"), (1, u "PRECISION"), (1, u "MAX_EXPONENT"), (1, u "MIN_EXPONENT"), (1, u "BYTES"), (3, u "serialVersionUID"), (0, u "J")] 79

def k12c0 : Code := { maxStack := 4, maxLocals := 2, code := jdk_117_method_7_code, exceptionTable := #[], attributes := #[] }
def k12m0 : Method := { name := "isInfinite", desc := "(D)Z", sig := { parameters := [.double], returnType := some .boolean }, accessFlags := 9, code := some k12c0 }
/-- java/lang/Double -/
def k12 : Class := { plain "java/lang/Double" (some 10) with
  accessFlags := 49
  interfaces := #[6, 5, 11]
  cf := some (fileOf pool12 1 #[] #[{ accessFlags := 9, nameIndex := 127, descriptorIndex := 14, attributes := #[] }] 49 114 #[175, 177, 179] #[{ accessFlags := 25, nameIndex := 181, descriptorIndex := 121, attributes := #[] }, { accessFlags := 25, nameIndex := 185, descriptorIndex := 121, attributes := #[] }, { accessFlags := 25, nameIndex := 188, descriptorIndex := 121, attributes := #[] }, { accessFlags := 25, nameIndex := 191, descriptorIndex := 121, attributes := #[] }, { accessFlags := 25, nameIndex := 192, descriptorIndex := 121, attributes := #[] }, { accessFlags := 25, nameIndex := 193, descriptorIndex := 121, attributes := #[] }, { accessFlags := 25, nameIndex := 196, descriptorIndex := 197, attributes := #[] }, { accessFlags := 25, nameIndex := 199, descriptorIndex := 197, attributes := #[] }, { accessFlags := 25, nameIndex := 201, descriptorIndex := 197, attributes := #[] }, { accessFlags := 25, nameIndex := 203, descriptorIndex := 197, attributes := #[] }, { accessFlags := 25, nameIndex := 205, descriptorIndex := 197, attributes := #[] }, { accessFlags := 25, nameIndex := 173, descriptorIndex := 174, attributes := #[] }, { accessFlags := 18, nameIndex := 120, descriptorIndex := 121, attributes := #[] }, { accessFlags := 26, nameIndex := 209, descriptorIndex := 210, attributes := #[] }])
  fields := #[{ name := "POSITIVE_INFINITY", type := .double, accessFlags := 25, slot := 0, constantValue := 0 }, { name := "NEGATIVE_INFINITY", type := .double, accessFlags := 25, slot := 1, constantValue := 0 }, { name := "NaN", type := .double, accessFlags := 25, slot := 2, constantValue := 0 }, { name := "MAX_VALUE", type := .double, accessFlags := 25, slot := 3, constantValue := 0 }, { name := "MIN_NORMAL", type := .double, accessFlags := 25, slot := 4, constantValue := 0 }, { name := "MIN_VALUE", type := .double, accessFlags := 25, slot := 5, constantValue := 0 }, { name := "SIZE", type := .int, accessFlags := 25, slot := 6, constantValue := 0 }, { name := "PRECISION", type := .int, accessFlags := 25, slot := 7, constantValue := 0 }, { name := "MAX_EXPONENT", type := .int, accessFlags := 25, slot := 8, constantValue := 0 }, { name := "MIN_EXPONENT", type := .int, accessFlags := 25, slot := 9, constantValue := 0 }, { name := "BYTES", type := .int, accessFlags := 25, slot := 10, constantValue := 0 }, { name := "TYPE", type := (.object "java/lang/Class"), accessFlags := 25, slot := 11, constantValue := 0 }, { name := "value", type := .double, accessFlags := 18, slot := 0, constantValue := 0 }, { name := "serialVersionUID", type := .long, accessFlags := 26, slot := 12, constantValue := 0 }]
  methods := #[k12m0]
  instanceTypes := #[.double]
  staticTypes := #[.double, .double, .double, .double, .double, .double, .int, .int, .int, .int, .int, (.object "java/lang/Class"), .long]
  resolved := Array.replicate 290 none
  statics := none }

def pool13 : Array CpInfo := pool [(2, .class_ 4), (1, u "java/lang/CharSequence"), (42, .class_ 48), (0, u "java/lang/CharSequence$1CodePointIterator"), (10, .class_ 60), (0, u "java/lang/CharSequence$1CharIterator"), (5, .class_ 67), (0, u "java/lang/Object")] 63

/-- java/lang/CharSequence -/
def k13 : Class := { plain "java/lang/CharSequence" (some 0) with
  accessFlags := 1537
  interfaces := #[]
  cf := some (fileOf pool13 2 #[.nestMembers #[47, 59]] #[] 1537 66 #[] #[])
  fields := #[]
  methods := #[]
  instanceTypes := #[]
  staticTypes := #[]
  resolved := Array.replicate 131 none
  statics := none }

def pool14 : Array CpInfo := pool [(2, .class_ 4), (1, u "java/lang/Object"), (0, u "<init>"), (0, u "()V"), (3, .class_ 12), (1, u "java/lang/String"), (0, u "value"), (0, u "[B"), (2, u "coder"), (0, u "B"), (2, u "hash"), (0, u "I"), (2, u "hashIsZero"), (0, u "Z"), (13, u "COMPACT_STRINGS"), (534, .class_ 576), (0, u "java/lang/CharSequence"), (22, u "CASE_INSENSITIVE_ORDER"), (0, u "Ljava/util/Comparator;"), (500, u "serialPersistentFields"), (0, u "[Ljava/io/ObjectStreamField;"), (0, .class_ 1104), (0, u "java/lang/String$CaseInsensitiveComparator"), (1, .class_ 1107), (0, u "java/io/Serializable"), (0, .class_ 1109), (0, u "java/lang/Comparable"), (0, .class_ 1111), (0, u "java/lang/constant/Constable"), (0, .class_ 1113), (0, u "java/lang/constant/ConstantDesc"), (2, u "serialVersionUID"), (0, u "J"), (3, u "REPL"), (0, u "C"), (2, u "LATIN1"), (1, u "UTF16")] 323

def k14m0 : Method := { name := "<init>", desc := "()V", sig := { parameters := [], returnType := none }, accessFlags := 1, code := none }
/-- java/lang/String -/
def k14 : Class := { plain "java/lang/String" (some 0) with
  accessFlags := 49
  interfaces := #[7, 6, 13, 5, 11]
  cf := some (fileOf pool14 10 #[.nestMembers #[1103]] #[{ accessFlags := 1, nameIndex := 5, descriptorIndex := 6, attributes := #[] }] 49 2 #[1106, 1108, 575, 1110, 1112] #[{ accessFlags := 18, nameIndex := 13, descriptorIndex := 14, attributes := #[] }, { accessFlags := 18, nameIndex := 17, descriptorIndex := 18, attributes := #[] }, { accessFlags := 2, nameIndex := 21, descriptorIndex := 22, attributes := #[] }, { accessFlags := 2, nameIndex := 25, descriptorIndex := 26, attributes := #[] }, { accessFlags := 26, nameIndex := 1116, descriptorIndex := 1117, attributes := #[] }, { accessFlags := 24, nameIndex := 40, descriptorIndex := 26, attributes := #[] }, { accessFlags := 26, nameIndex := 1101, descriptorIndex := 1102, attributes := #[] }, { accessFlags := 26, nameIndex := 1121, descriptorIndex := 1122, attributes := #[] }, { accessFlags := 25, nameIndex := 599, descriptorIndex := 600, attributes := #[] }, { accessFlags := 24, nameIndex := 1125, descriptorIndex := 18, attributes := #[] }, { accessFlags := 24, nameIndex := 1127, descriptorIndex := 18, attributes := #[] }])
  fields := #[{ name := "value", type := (.array .byte), accessFlags := 18, slot := 0, constantValue := 0 }, { name := "coder", type := .byte, accessFlags := 18, slot := 1, constantValue := 0 }, { name := "hash", type := .int, accessFlags := 2, slot := 2, constantValue := 0 }, { name := "hashIsZero", type := .boolean, accessFlags := 2, slot := 3, constantValue := 0 }, { name := "serialVersionUID", type := .long, accessFlags := 26, slot := 0, constantValue := 0 }, { name := "COMPACT_STRINGS", type := .boolean, accessFlags := 24, slot := 1, constantValue := 0 }, { name := "serialPersistentFields", type := (.array (.object "java/io/ObjectStreamField")), accessFlags := 26, slot := 2, constantValue := 0 }, { name := "REPL", type := .char, accessFlags := 26, slot := 3, constantValue := 0 }, { name := "CASE_INSENSITIVE_ORDER", type := (.object "java/util/Comparator"), accessFlags := 25, slot := 4, constantValue := 0 }, { name := "LATIN1", type := .byte, accessFlags := 24, slot := 5, constantValue := 0 }, { name := "UTF16", type := .byte, accessFlags := 24, slot := 6, constantValue := 0 }]
  methods := #[k14m0]
  instanceTypes := #[(.array .byte), .byte, .int, .boolean]
  staticTypes := #[.long, .boolean, (.array (.object "java/io/ObjectStreamField")), .char, (.object "java/util/Comparator"), .byte, .byte]
  resolved := Array.replicate 1451 none
  statics := none }

def pool15 : Array CpInfo := pool [(2, .class_ 4), (1, u "java/lang/Object"), (0, u "<init>"), (0, u "()V"), (35, .class_ 44), (1, u "java/util/Objects"), (0, u "requireNonNull"), (48, u "(Ljava/lang/Object;Ljava/lang/String;)Ljava/lang/Object;")] 89

def k15m0 : Method := { name := "<init>", desc := "()V", sig := { parameters := [], returnType := none }, accessFlags := 2, code := none }
def k15c1 : Code := { maxStack := 3, maxLocals := 2, code := jdk_31_method_11_code, exceptionTable := #[], attributes := #[] }
def k15m1 : Method := { name := "requireNonNull", desc := "(Ljava/lang/Object;Ljava/lang/String;)Ljava/lang/Object;", sig := { parameters := [(.object "java/lang/Object"), (.object "java/lang/String")], returnType := some (.object "java/lang/Object") }, accessFlags := 9, code := some k15c1 }
/-- java/util/Objects -/
def k15 : Class := { plain "java/util/Objects" (some 0) with
  accessFlags := 49
  interfaces := #[]
  cf := some (fileOf pool15 42 #[] #[{ accessFlags := 2, nameIndex := 5, descriptorIndex := 6, attributes := #[] }, { accessFlags := 9, nameIndex := 45, descriptorIndex := 94, attributes := #[] }] 49 2 #[] #[])
  fields := #[]
  methods := #[k15m0, k15m1]
  instanceTypes := #[]
  staticTypes := #[]
  resolved := Array.replicate 184 none
  statics := none }

def pool16 : Array CpInfo := pool [(1, u "java/lang/Cloneable"), (0, .class_ 1), (0, u "java/lang/Object"), (0, .class_ 3)] 3

/-- java/lang/Cloneable -/
def k16 : Class := { plain "java/lang/Cloneable" (some 0) with
  accessFlags := 1537
  interfaces := #[]
  cf := some (fileOf pool16 2 #[] #[] 1537 4 #[] #[])
  fields := #[]
  methods := #[]
  instanceTypes := #[]
  staticTypes := #[]
  resolved := Array.replicate 8 none
  statics := none }

/-- the primitive byte -/
def k17 : Class := { plain "byte" none with kind := .primitive 'B', accessFlags := 0x411 }
/-- [B -/
def k18 : Class := { plain "[B" (some 0) with kind := .array 17 .byte, interfaces := #[16, 7], accessFlags := 1041 }

/-- the primitive int -/
def k19 : Class := { plain "int" none with kind := .primitive 'I', accessFlags := 0x411 }
/-- [I -/
def k20 : Class := { plain "[I" (some 0) with kind := .array 19 .int, interfaces := #[16, 7], accessFlags := 1041 }

def heap : Heap := #[{ cls := 9, slots := #[.ref 1, .null, .null, .null, .null], vm := .statics 9 },
  { cls := 9, slots := #[.null, .int 0, .int 0], vm := .none }]
def classes : Array Class := #[k0, k1, k2, k3, k4, k5, k6, k7, k8, k9, k10, k11, k12, k13, k14, k15, k16, k17, k18, k19, k20]
def interned : List (Array UInt16 × Addr) := []
def slotsUsed : Nat := 8
def theMethod : MethodId := ⟨1, 1⟩
def args0 : Array Value := #[.int 3, .int 4, .long 5, .int 6]
def aboutOver (below : List Frame) : State where
  vm := { classes := classes, interned := interned.toArray }
  heap := heap
  slotsUsed := slotsUsed
  threads := #[{ frames := .invoking theMethod args0 :: below }]
def below0 : List Frame := [.native { method := ⟨0, 0⟩, args := #[] }]
def about1 : State := aboutOver below0
def p0 : Program := .bare "" "" ""
def e0 : Env := launch0.env 0 0 0
theorem w_frames : about1.frames = Frame.invoking theMethod args0 :: below0 := rfl
set_option maxRecDepth 65536 in
theorem w_args : argsFit about1.vm theMethod args0 = true := by decide +kernel
set_option maxRecDepth 65536 in
theorem w_heap : heapFits about1 = true := by decide +kernel
set_option maxRecDepth 65536 in
theorem w_runnable : about1.curStatus? = some .runnable := by decide +kernel
set_option maxRecDepth 65536 in
theorem w_alone : about1.alone = true := by decide +kernel
set_option maxRecDepth 65536 in
theorem w_named : about1.methodNamed? x = some theMethod := by decide +kernel
set_option maxRecDepth 65536 in
theorem w_hears : about1.hears theMethod below0 = true := by decide +kernel
set_option maxRecDepth 65536 in
theorem w_ripe : about1.ripe theMethod args0 below0 = true := by decide +kernel
theorem w_running : about1.status = .running := rfl
set_option maxRecDepth 65536 in
theorem w_room : about1.hasRoom e0.platform room_1 = true :=
  launch0.hasRoom_least _ room_1 (by decide +kernel) (by decide +kernel) (by decide +kernel) (by decide +kernel) (by decide +kernel) (by decide +kernel)
theorem allAtoms_all (ts : List Jvm.Cond) (a : Array Jvm.Value) (st : Jvm.State) : (allAtoms ts).before a st = ts.all (fun c => c.before a st) := by
  induction ts with
  | nil => rfl
  | cons c t ih =>
    show (Jvm.Cond.and c (allAtoms t)).before a st = _
    rw [Jvm.Cond.before_and, ih, List.all_cons]
def words1 : List Jvm.Cond := Jvm.Cond.code x code maxLocals ret :: tables_1
/-- a 'code' word, met by the world's own term for the bytes: nothing is compared byte by byte -/
theorem code_word {y : MethodName} {bytes : ByteArray} {mx : Nat} {rt : Option FieldType} {a : Array Value} {s : State} {m : MethodId} {meth : Method} {c : Code} (h1 : s.methodNamed? y = some m) (h2 : s.vm.method? m = some meth) (h3 : meth.code = some c) (h4 : c.code = bytes)
    (h5 : (c.maxLocals == mx && c.exceptionTable.isEmpty && decide (c.maxStack ≤ mostOperands) && decide (meth.sig.returnType = rt) && !meth.locks && decide (parseMethodDescriptor y.desc = some meth.sig)) = true) : (Jvm.Cond.code y bytes mx rt).before a s = true := by
  simp only [Bool.and_eq_true, beq_iff_eq, Bool.not_eq_true', decide_eq_true_eq] at h5
  obtain ⟨⟨⟨⟨⟨g1, g2⟩, g3⟩, g4⟩, g5⟩, g6⟩ := h5
  simp [Cond.before, Cond.holds, Cond.value, h1, h2, h3, h4, g1, g2, g3, g4, g5, g6]
def isCode : Jvm.Cond → Bool
  | .code _ _ _ _ => true
  | _ => false
theorem all_split {L : List Jvm.Cond} {P : Jvm.Cond → Bool} (h1 : L.all (fun c => isCode c || P c) = true) (h2 : ∀ c ∈ L.filter isCode, P c = true) : L.all P = true := by
  refine List.all_eq_true.mpr fun c hc => ?_
  have h := List.all_eq_true.mp h1 c hc
  rcases Bool.eq_false_or_eq_true (isCode c) with hi | hi
  · exact h2 c (List.mem_filter.mpr ⟨hc, hi⟩)
  · simpa [hi] using h
set_option maxRecDepth 65536 in
theorem w_c0 : (Jvm.Cond.code x code maxLocals ret).before args0 about1 = true := code_word (m := ⟨1, 1⟩) (meth := k1m1) (c := k1c1) (by decide +kernel) rfl rfl rfl (by decide +kernel)
set_option maxRecDepth 65536 in
theorem w_c1 : (Jvm.Cond.code ({ cls := "java/lang/Math", name := "max", desc := "(II)I" } : Jvm.MethodName) jdk_29_method_65_code (2 : Nat) (Option.some Jvm.ClassFile.FieldType.int)).before args0 about1 = true := code_word (m := ⟨2, 2⟩) (meth := k2m2) (c := k2c2) (by decide +kernel) rfl rfl rfl (by decide +kernel)
set_option maxRecDepth 65536 in
theorem w_c2 : (Jvm.Cond.code ({ cls := "com/example/likely_match/likelymatch/ranking/Bm25", name := "<init>", desc := "(DDLcom/example/likely_match/likelymatch/ranking/Idf;D)V" } : Jvm.MethodName) prog_43_method_2_code (8 : Nat) (Option.none : Option Jvm.ClassFile.FieldType)).before args0 about1 = true := code_word (m := ⟨4, 0⟩) (meth := k4m0) (c := k4c0) (by decide +kernel) rfl rfl rfl (by decide +kernel)
set_option maxRecDepth 65536 in
theorem w_c3 : (Jvm.Cond.code ({ cls := "java/lang/Object", name := "<init>", desc := "()V" } : Jvm.MethodName) object_method_1_code (1 : Nat) (Option.none : Option Jvm.ClassFile.FieldType)).before args0 about1 = true := code_word (m := ⟨0, 0⟩) (meth := k0m0) (c := k0c0) (by decide +kernel) rfl rfl rfl (by decide +kernel)
set_option maxRecDepth 65536 in
theorem w_c4 : (Jvm.Cond.code ({ cls := "java/lang/Double", name := "isInfinite", desc := "(D)Z" } : Jvm.MethodName) jdk_117_method_7_code (2 : Nat) (Option.some Jvm.ClassFile.FieldType.boolean)).before args0 about1 = true := code_word (m := ⟨12, 0⟩) (meth := k12m0) (c := k12c0) (by decide +kernel) rfl rfl rfl (by decide +kernel)
set_option maxRecDepth 65536 in
theorem w_c5 : (Jvm.Cond.code ({ cls := "java/lang/Math", name := "abs", desc := "(D)D" } : Jvm.MethodName) jdk_29_method_64_code (2 : Nat) (Option.some Jvm.ClassFile.FieldType.double)).before args0 about1 = true := code_word (m := ⟨2, 1⟩) (meth := k2m1) (c := k2c1) (by decide +kernel) rfl rfl rfl (by decide +kernel)
set_option maxRecDepth 65536 in
theorem w_c6 : (Jvm.Cond.code ({ cls := "java/util/Objects", name := "requireNonNull", desc := "(Ljava/lang/Object;Ljava/lang/String;)Ljava/lang/Object;" } : Jvm.MethodName) jdk_31_method_11_code (2 : Nat) (Option.some (Jvm.ClassFile.FieldType.object "java/lang/Object"))).before args0 about1 = true := code_word (m := ⟨15, 1⟩) (meth := k15m1) (c := k15c1) (by decide +kernel) rfl rfl rfl (by decide +kernel)
set_option maxRecDepth 65536 in
theorem w_c7 : (Jvm.Cond.code ({ cls := "com/example/likely_match/likelymatch/ranking/Bm25", name := "queryWeight", desc := "(I)D" } : Jvm.MethodName) prog_43_method_3_code (2 : Nat) (Option.some Jvm.ClassFile.FieldType.double)).before args0 about1 = true := code_word (m := ⟨4, 1⟩) (meth := k4m1) (c := k4c1) (by decide +kernel) rfl rfl rfl (by decide +kernel)
def codes1 : List Jvm.Cond := [Jvm.Cond.code x code maxLocals ret, Jvm.Cond.code ({ cls := "java/lang/Math", name := "max", desc := "(II)I" } : Jvm.MethodName) jdk_29_method_65_code (2 : Nat) (Option.some Jvm.ClassFile.FieldType.int), Jvm.Cond.code ({ cls := "com/example/likely_match/likelymatch/ranking/Bm25", name := "<init>", desc := "(DDLcom/example/likely_match/likelymatch/ranking/Idf;D)V" } : Jvm.MethodName) prog_43_method_2_code (8 : Nat) (Option.none : Option Jvm.ClassFile.FieldType), Jvm.Cond.code ({ cls := "java/lang/Object", name := "<init>", desc := "()V" } : Jvm.MethodName) object_method_1_code (1 : Nat) (Option.none : Option Jvm.ClassFile.FieldType), Jvm.Cond.code ({ cls := "java/lang/Double", name := "isInfinite", desc := "(D)Z" } : Jvm.MethodName) jdk_117_method_7_code (2 : Nat) (Option.some Jvm.ClassFile.FieldType.boolean), Jvm.Cond.code ({ cls := "java/lang/Math", name := "abs", desc := "(D)D" } : Jvm.MethodName) jdk_29_method_64_code (2 : Nat) (Option.some Jvm.ClassFile.FieldType.double), Jvm.Cond.code ({ cls := "java/util/Objects", name := "requireNonNull", desc := "(Ljava/lang/Object;Ljava/lang/String;)Ljava/lang/Object;" } : Jvm.MethodName) jdk_31_method_11_code (2 : Nat) (Option.some (Jvm.ClassFile.FieldType.object "java/lang/Object")), Jvm.Cond.code ({ cls := "com/example/likely_match/likelymatch/ranking/Bm25", name := "queryWeight", desc := "(I)D" } : Jvm.MethodName) prog_43_method_3_code (2 : Nat) (Option.some Jvm.ClassFile.FieldType.double)]
set_option maxRecDepth 65536 in
theorem codes_eq : words1.filter isCode = codes1 := rfl
theorem w_codes : ∀ c ∈ words1.filter isCode, c.before args0 about1 = true := by
  rw [codes_eq]
  intro c hc
  simp only [codes1, List.mem_cons, List.not_mem_nil, or_false] at hc
  rcases hc with rfl | rfl | rfl | rfl | rfl | rfl | rfl | rfl
  · exact w_c0
  · exact w_c1
  · exact w_c2
  · exact w_c3
  · exact w_c4
  · exact w_c5
  · exact w_c6
  · exact w_c7
set_option maxRecDepth 65536 in
theorem w_t1 : (words1.take 24).all (fun c => isCode c || c.before args0 about1) = true := by decide +kernel
set_option maxRecDepth 65536 in
theorem w_t2 : ((words1.drop 24).take 24).all (fun c => isCode c || c.before args0 about1) = true := by decide +kernel
set_option maxRecDepth 65536 in
theorem w_t3 : ((words1.drop 24).drop 24).all (fun c => isCode c || c.before args0 about1) = true := by decide +kernel
theorem w_tables : (allAtoms (Jvm.Cond.code x code maxLocals ret :: tables_1)).before args0 about1 = true := by
  rw [allAtoms_all]
  show words1.all (fun c => c.before args0 about1) = true
  refine all_split ?_ w_codes
  rw [← List.take_append_drop 24 words1, List.all_append, w_t1, ← List.take_append_drop 24 (words1.drop 24), List.all_append, w_t2, w_t3]
  rfl
set_option maxRecDepth 65536 in
theorem w_case : (Jvm.Cond.and given_1 narrow_1).before args0 about1 = true := by decide +kernel
theorem w_applies : (headSpec (Jvm.Cond.code x code maxLocals ret :: tables_1) room_1).applies x e0.platform about1 = true :=
  (Spec.applies_iff w_frames).mpr ⟨w_running, w_runnable, w_alone, w_named, w_hears, w_ripe, w_room, w_tables⟩
theorem atStart : AtStart classFile x code maxLocals ret World_1 tables_1 room_1 Calls_1 rest_1 Pre_1 launch0 p0 e0 about1 theMethod args0 below0 :=
  ⟨lists_1, trivial, launch0.admits_env _ _ _, launch0.least_env, fairChoices_fair.cas, fairChoices_fair.clock, w_frames, w_args, w_heap, w_applies, trivial, trivial, w_case⟩
end start1
theorem witness_1 : WitnessClaimed_1 := ⟨start1.p0, start1.e0, start1.about1, start1.theMethod, start1.args0, start1.below0, start1.atStart⟩
end Jvm.Pilot.@@N@@
