import JvmDerived
import JvmDerived.Pilot.@@N@@Statement
import JvmDerived.Pilot.@@N@@Code
set_option linter.unusedVariables false
set_option linter.unusedSimpArgs false
namespace Jvm.Pilot.@@N@@
open Jvm Jvm.ClassFile Sem Op Lib Jvm.Free Jvm.Stand Jvm.LawKit Jvm.RoadKit Bundle Jvm.Pilot.@@N@@.Jvm.D
/-! OWN PRELUDE. What the walk knows of the objects that it made: a list of (address, what stands there): an array with its components, or an object with its fields. -/
abbrev oDsc : Type := Sum (FieldType × List Value) (String × List (String × String × String × Value))
abbrev oDs : Type := List (Addr × oDsc)
def oAt (Z : State) (h : Heap) (a : Addr) (d : oDsc) : Prop := match d with
  | .inl (ty, vs) => ∃ c : Cell, Arr Z h a c ty ∧ c.slots = vs.toArray
  | .inr (C, fs) => Exa Z h a C ∧ ∀ f ∈ fs, Fld Z h a f.1 f.2.1 f.2.2.1 f.2.2.2
def oMem (Z : State) (h0 h : Heap) (ds : oDs) : Prop :=
  Ext h0 h ∧ (∀ (i j : Nat) (x y : Addr × oDsc), i < j → ds[i]? = some x → ds[j]? = some y → x.1 < y.1) ∧ ∀ (i : Nat) (x : Addr × oDsc), ds[i]? = some x → h0.size ≤ x.1 ∧ oAt Z h x.1 x.2
theorem oExt_refl (h : Heap) : Ext h h := ⟨Nat.le_refl _, fun _ _ q => q⟩
theorem oMem.start (Z : State) (h : Heap) : oMem Z h h [] := ⟨oExt_refl h, fun _ _ _ _ _ q => by simp at q, fun _ _ q => by simp at q⟩
theorem oAt.lt {Z : State} {h : Heap} {a : Addr} {d : oDsc} (A : oAt Z h a d) : a < h.size := by
  rcases d with ⟨ty, vs⟩ | ⟨C, fs⟩
  · obtain ⟨c, A, -⟩ := A; exact A.lt
  · exact A.1.lt
theorem oAt.ext {Z : State} {h h' : Heap} {a : Addr} {d : oDsc} (A : oAt Z h a d) (E : Ext h h') : oAt Z h' a d := by
  rcases d with ⟨ty, vs⟩ | ⟨C, fs⟩
  · obtain ⟨c, A, q⟩ := A; exact ⟨c, A.ext E, q⟩
  · exact ⟨A.1.ext E, fun f hf => (A.2 f hf).ext E⟩
theorem oAt.other {Z : State} {h h' : Heap} {a b : Addr} {sl : Nat} {v : Value} {d : oDsc} (A : oAt Z h b d) (W : Wr h h' a sl v) (q : b ≠ a) : oAt Z h' b d := by
  rcases d with ⟨ty, vs⟩ | ⟨C, fs⟩
  · obtain ⟨c, A, r⟩ := A; exact ⟨c, A.other W q, r⟩
  · exact ⟨A.1.wr W, fun f hf => (A.2 f hf).other W (Or.inl q)⟩
theorem oMem.push {Z : State} {h0 h h' : Heap} {ds : oDs} {d : oDsc} (M : oMem Z h0 h ds) (E : Ext h h') (A : oAt Z h' h.size d) : oMem Z h0 h' (ds ++ [(h.size, d)]) := by
  obtain ⟨M1, M2, M3⟩ := M
  refine ⟨⟨Nat.le_trans M1.1 E.1, fun a c q => E.2 a c (M1.2 a c q)⟩, fun i j x y hij hi hj => ?_, fun i x hi => ?_⟩
  · rw [List.getElem?_append] at hi hj
    split at hj
    · rw [if_pos (by omega)] at hi; exact M2 i j x y hij hi hj
    · rename_i nj
      have hjl : j - ds.length = 0 := by
        rcases Nat.eq_zero_or_pos (j - ds.length) with q | q
        · exact q
        · rw [List.getElem?_eq_none (by simp; omega)] at hj; cases hj
      rw [hjl] at hj; cases hj
      rw [if_pos (by omega)] at hi
      exact (M3 i x hi).2.lt
  · rw [List.getElem?_append] at hi
    split at hi
    · exact ⟨(M3 i x hi).1, (M3 i x hi).2.ext E⟩
    · rename_i ni
      have hil : i - ds.length = 0 := by
        rcases Nat.eq_zero_or_pos (i - ds.length) with q | q
        · exact q
        · rw [List.getElem?_eq_none (by simp; omega)] at hi; cases hi
      rw [hil] at hi; cases hi
      exact ⟨M1.1, A⟩
theorem oMem.put {Z : State} {h0 h h' : Heap} {ds : oDs} {i : Nat} {a : Addr} {d d' : oDsc} {sl : Nat} {v : Value} (M : oMem Z h0 h ds) (hi : ds[i]? = some (a, d)) (W : Wr h h' a sl v) (A : oAt Z h' a d') : oMem Z h0 h' (ds.set i (a, d')) := by
  obtain ⟨M1, M2, M3⟩ := M
  have ha := (M3 i _ hi).1
  have hlt : i < ds.length := (List.getElem?_eq_some_iff.mp hi).1
  have fst : ∀ (j : Nat) (x : Addr × oDsc), (ds.set i (a, d'))[j]? = some x → ∃ y : Addr × oDsc, ds[j]? = some y ∧ y.1 = x.1 := fun j x hx => by
    rw [List.getElem?_set] at hx
    split at hx
    · rename_i e; subst e; cases hx; exact ⟨_, hi, rfl⟩
    · exact ⟨x, hx, rfl⟩
  refine ⟨⟨Nat.le_trans M1.1 (Nat.le_of_eq W.size.symm), fun x c q => ?_⟩, fun j k x y hjk hj hk => ?_, fun j x hx => ?_⟩
  · obtain ⟨c', q1, -, -, -, q5, -⟩ := wr_at W (M1.2 x c q)
    have : x ≠ a := Nat.ne_of_lt (Nat.lt_of_lt_of_le (Array.getElem?_eq_some_iff.mp q).1 ha)
    rw [← q5 this]; exact q1
  · obtain ⟨x', hx', ex⟩ := fst j x hj
    obtain ⟨y', hy', ey⟩ := fst k y hk
    rw [← ex, ← ey]; exact M2 j k x' y' hjk hx' hy'
  · rw [List.getElem?_set] at hx
    split at hx
    · rename_i e; subst e; cases hx; exact ⟨ha, A⟩
    · rename_i e
      refine ⟨(M3 j x hx).1, (M3 j x hx).2.other W fun q => ?_⟩
      rcases Nat.lt_or_gt_of_ne e with r | r
      · have := M2 i j _ _ r hi hx; rw [q] at this; exact Nat.lt_irrefl _ this
      · have := M2 j i _ _ r hx hi; rw [q] at this; exact Nat.lt_irrefl _ this
/-- the fields' places are unlike -/
def oApart (Z : State) (fs : List (String × String × String × Value)) : Prop :=
  ∀ (i j : Nat) (f g : String × String × String × Value), i ≠ j → fs[i]? = some f → fs[j]? = some g → Jvm.RoadKit.slotOf Z f.1 f.2.1 f.2.2.1 ≠ Jvm.RoadKit.slotOf Z g.1 g.2.1 g.2.2.1
theorem oApart.of {Z : State} {a0 : Array Value} {C : String} {fs : List (String × String × String × Value)} (hL : ∀ f ∈ fs, Laid Z a0 C f.1 f.2.1 f.2.2.1 ∧ ∃ t, parseFieldDescriptor f.2.2.1 = some t) (hn : (fs.map fun f => f.2.1).Nodup) : oApart Z fs := fun i j f g hij hi hj => by
  obtain ⟨L1, t1, p1⟩ := hL f (List.mem_of_getElem? hi)
  obtain ⟨L2, t2, p2⟩ := hL g (List.mem_of_getElem? hj)
  refine slot_ne L1 L2 (fun q => hij ?_) p1 p2
  have e1 : (fs.map fun f => f.2.1)[i]? = some f.2.1 := by rw [List.getElem?_map, hi]; rfl
  have e2 : (fs.map fun f => f.2.1)[j]? = some g.2.1 := by rw [List.getElem?_map, hj]; rfl
  rw [q] at e1
  have l1 := (List.getElem?_eq_some_iff.mp e1).1
  exact (List.getElem?_inj l1 hn).mp (e1.trans e2.symm)
/-- what a walk's texts share: the machine, the tables, the body's bytes, its class, its result's type, its name -/
def oK (p : Program) (s : State) (m : MethodId) (meth : Method) (c : Code) (Z : State) (own : String) (by0 : ByteArray) (ml : Nat) (ret : Option FieldType) (nm : String) : Prop :=
  (p.tables.exec = Jvm.exec ∧ Z.Warmed39 s.vm ∧ c.code = by0 ∧ c.maxLocals = ml) ∧ s.vm.findClass own = some m.cls ∧ meth.sig.returnType = ret ∧ meth.locks = false ∧ meth.name = nm
/-- the walk stands at T, knows ds of what it made, and has booked cells and slots -/
def oIn (p : Program) (l : Launch) (e : Env) (R : Room) (s : State) (m : MethodId) (args : Array Value) (below : List Frame) (meth : Method) (c : Code) (Z : State) (h0 : Heap) (T : State) (ds : oDs) (cells slots : Nat) : Prop :=
  ∃ locs, Stand p l e R s m args below meth c T locs cells slots ∧ Fr h0.size locs ∧ oMem Z h0 T.heap ds
/-- the run from T with the frame g returns, and P holds of what it returns and of what it leaves -/
def oEnds (p : Program) (e : Env) (R : Room) (s : State) (below : List Frame) (Z : State) (h0 : Heap) (P : Option Value → oDs → Prop) (T : State) (g : JFrame) : Prop :=
  ∃ s₂ o, Steps p.tables e below (T.setTop g) s₂ ∧ s₂.status = .running ∧ Ended s₂ below o ∧ ∃ v L, o = .returned v ∧ (Fr h0.size L ∧ ∃ ds', P v ds' ∧ oMem Z h0 s₂.heap ds') ∧ FrameEnd s o s₂ L R.cells R.slots
/-- from every state that knows ds, at pc with these locals and this stack, the body returns as P says -/
def oW (p : Program) (l : Launch) (e : Env) (R : Room) (s : State) (m : MethodId) (args : Array Value) (below : List Frame) (meth : Method) (c : Code) (Z : State) (h0 : Heap) (P : Option Value → oDs → Prop) (ds : oDs) (cells slots pc : Nat) (Ls : Array Slot) (S : List Value) : Prop :=
  ∀ T, oIn p l e R s m args below meth c Z h0 T ds cells slots → oEnds p e R s below Z h0 P T (mkF m pc Ls S)
/-- a body's contract: called with as' where the objects made are ds, it returns as P says, within the room rm -/
def oCtr (l : Launch) (Z : State) (h0 : Heap) (ws : List Jvm.Cond) (y : MethodName) (by0 : ByteArray) (ml : Nat) (ret : Option FieldType) (rm : Room) (as' : Array Value) (ds : oDs) (P : Option Value → oDs → Prop) : Prop :=
  ∀ h, oMem Z h0 h ds → MetFree l y (head1 (Jvm.Cond.code y by0 ml ret :: ws) rm) (fun a U => a = as' ∧ Z.Warmed39 U.vm ∧ U.heap = h) (fun _ _ _ _ _ => True)
    (fun _ U o U' => ∃ v L, o = .returned v ∧ (Fr h0.size L ∧ ∃ ds', P v ds' ∧ oMem Z h0 U'.heap ds') ∧ FrameEnd U o U' L rm.cells rm.slots)
def oVal (P2 : Value → oDs → Prop) (v : Option Value) (ds : oDs) : Prop := ∃ w, v = some w ∧ P2 w ds
def oVoid (P3 : oDs → Prop) (v : Option Value) (ds : oDs) : Prop := v = none ∧ P3 ds
theorem oCtr.of {l : Launch} {Z : State} {h0 : Heap} {ws : List Jvm.Cond} {y : MethodName} {by0 : ByteArray} {ml : Nat} {ret : Option FieldType} {rm : Room} {as' : Array Value} {ds : oDs} {P : Option Value → oDs → Prop} {Ls : Array Slot}
    (hpl : plainFor y = true) (hef : ∀ m, entryFrame m as' ml = mkF m 0 Ls [])
    (hb : ∀ p e s m below meth c, oK p s m meth c Z y.cls by0 ml ret y.name → oW p l e rm s m as' below meth c Z h0 P ds 0 0 0 Ls []) : oCtr l Z h0 ws y by0 ml ret rm as' ds P := by
  intro h M
  refine MetFree.of_bodySF hpl hisR ?_
  intro p e s m args below meth c s₁ Bd hml0 hP hK
  obtain ⟨rfl, hZ, hh⟩ := hP
  have e0 : s₁.heap = h := by rw [← hh, Bd.state]; rfl
  have K : oK p s m meth c Z y.cls by0 ml ret y.name := ⟨⟨Bd.exec, hZ, Bd.bytes, hml0⟩, findClass_of_methodNamed Bd.named, Bd.returns, Bd.notSynchronized, (name_of_methodNamed Bd.named Bd.method).1⟩
  obtain ⟨s₂, o, h1, h2⟩ := hb p e s m below meth c K s₁ ⟨[], Stand.of_body Bd, Fr.nil _, by rw [e0]; exact M⟩
  exact ⟨s₂, o, castTop (hef m) h1, h2⟩
section Steps
variable {p : Program} {l : Launch} {e : Env} {R : Room} {s : State} {m : MethodId} {args : Array Value} {below : List Frame} {meth : Method} {c : Code} {Z : State} {h0 : Heap} {own nm : String} {by0 : ByteArray} {ml : Nat} {ret : Option FieldType} {P : Option Value → oDs → Prop} {ds ds' : oDs} {cells slots pc pc' : Nat} {Ls Ls' : Array Slot} {S S' : List Value} {a0 : Array Value}
theorem oW.pure (st : ∀ T locs, Stand p l e R s m args below meth c T locs cells slots → ∀ t, Steps p.tables e below (T.setTop (mkF m pc' Ls' S')) t → Steps p.tables e below (T.setTop (mkF m pc Ls S)) t) (hr : oW p l e R s m args below meth c Z h0 P ds cells slots pc' Ls' S') : oW p l e R s m args below meth c Z h0 P ds cells slots pc Ls S := by
  rintro T ⟨locs, X, N, M⟩
  obtain ⟨s₂, o, h1, h2⟩ := hr T ⟨locs, X, N, M⟩
  exact ⟨s₂, o, st T locs X _ h1, h2⟩
theorem oW.ends {T T' : State} {g g' : JFrame} (st : ∀ t, Steps p.tables e below (T'.setTop g') t → Steps p.tables e below (T.setTop g) t) (hr : oEnds p e R s below Z h0 P T' g') : oEnds p e R s below Z h0 P T g := by
  obtain ⟨s₂, o, h1, h2⟩ := hr
  exact ⟨s₂, o, st _ h1, h2⟩
theorem oW.join {α : Type} {F : α → Prop} {pcj : Nat} {Lf : α → Array Slot} {Sf : α → List Value} {dsf : α → oDs} (h1 : (∀ z, F z → oW p l e R s m args below meth c Z h0 P (dsf z) cells slots pcj (Lf z) (Sf z)) → oW p l e R s m args below meth c Z h0 P ds cells slots pc Ls S) (h2 : ∀ z, F z → oW p l e R s m args below meth c Z h0 P (dsf z) cells slots pcj (Lf z) (Sf z)) : oW p l e R s m args below meth c Z h0 P ds cells slots pc Ls S := h1 h2
theorem oW.iload (K : oK p s m meth c Z own by0 ml ret nm) {k : Nat} {v : Int32} (hd : decode by0 pc = .ok (.iload k, 2)) (hl : Ls[k]? = some (.val (.int v))) (hp : pc + 2 = pc') (hr : oW p l e R s m args below meth c Z h0 P ds cells slots pc' Ls (.int v :: S)) : oW p l e R s m args below meth c Z h0 P ds cells slots pc Ls (S) := by
  subst hp
  exact oW.pure (fun T locs X t k => XS.iload X.here K.1.1 rfl (hb K.1.2.2.1 hd) hl k) hr
theorem oW.iloadN (K : oK p s m meth c Z own by0 ml ret nm) {k : Fin 4} {v : Int32} (hd : decode by0 pc = .ok (.iload_n k, 1)) (hl : Ls[k.val]? = some (.val (.int v))) (hp : pc + 1 = pc') (hr : oW p l e R s m args below meth c Z h0 P ds cells slots pc' Ls (.int v :: S)) : oW p l e R s m args below meth c Z h0 P ds cells slots pc Ls (S) := by
  subst hp
  exact oW.pure (fun T locs X t k => XS.iloadN X.here K.1.1 rfl (hb K.1.2.2.1 hd) hl k) hr
theorem oW.istore (K : oK p s m meth c Z own by0 ml ret nm) {k : Nat} {v : Int32} (hd : decode by0 pc = .ok (.istore k, 2)) (hl : storeLocals Ls k (.int v) = some Ls') (hp : pc + 2 = pc') (hr : oW p l e R s m args below meth c Z h0 P ds cells slots pc' Ls' (S)) : oW p l e R s m args below meth c Z h0 P ds cells slots pc Ls (.int v :: S) := by
  subst hp
  exact oW.pure (fun T locs X t k => XS.istore X.here K.1.1 rfl (hb K.1.2.2.1 hd) rfl hl k) hr
theorem oW.istoreN (K : oK p s m meth c Z own by0 ml ret nm) {k : Fin 4} {v : Int32} (hd : decode by0 pc = .ok (.istore_n k, 1)) (hl : storeLocals Ls k.val (.int v) = some Ls') (hp : pc + 1 = pc') (hr : oW p l e R s m args below meth c Z h0 P ds cells slots pc' Ls' (S)) : oW p l e R s m args below meth c Z h0 P ds cells slots pc Ls (.int v :: S) := by
  subst hp
  exact oW.pure (fun T locs X t k => XS.istoreN X.here K.1.1 rfl (hb K.1.2.2.1 hd) rfl hl k) hr
theorem oW.lload (K : oK p s m meth c Z own by0 ml ret nm) {k : Nat} {v : Int64} (hd : decode by0 pc = .ok (.lload k, 2)) (hl : Ls[k]? = some (.val (.long v))) (hp : pc + 2 = pc') (hr : oW p l e R s m args below meth c Z h0 P ds cells slots pc' Ls (.long v :: S)) : oW p l e R s m args below meth c Z h0 P ds cells slots pc Ls (S) := by
  subst hp
  exact oW.pure (fun T locs X t k => XS.lload X.here K.1.1 rfl (hb K.1.2.2.1 hd) hl k) hr
theorem oW.lloadN (K : oK p s m meth c Z own by0 ml ret nm) {k : Fin 4} {v : Int64} (hd : decode by0 pc = .ok (.lload_n k, 1)) (hl : Ls[k.val]? = some (.val (.long v))) (hp : pc + 1 = pc') (hr : oW p l e R s m args below meth c Z h0 P ds cells slots pc' Ls (.long v :: S)) : oW p l e R s m args below meth c Z h0 P ds cells slots pc Ls (S) := by
  subst hp
  exact oW.pure (fun T locs X t k => XS.lloadN X.here K.1.1 rfl (hb K.1.2.2.1 hd) hl k) hr
theorem oW.lstore (K : oK p s m meth c Z own by0 ml ret nm) {k : Nat} {v : Int64} (hd : decode by0 pc = .ok (.lstore k, 2)) (hl : storeLocals Ls k (.long v) = some Ls') (hp : pc + 2 = pc') (hr : oW p l e R s m args below meth c Z h0 P ds cells slots pc' Ls' (S)) : oW p l e R s m args below meth c Z h0 P ds cells slots pc Ls (.long v :: S) := by
  subst hp
  exact oW.pure (fun T locs X t k => XS.lstore X.here K.1.1 rfl (hb K.1.2.2.1 hd) rfl hl k) hr
theorem oW.lstoreN (K : oK p s m meth c Z own by0 ml ret nm) {k : Fin 4} {v : Int64} (hd : decode by0 pc = .ok (.lstore_n k, 1)) (hl : storeLocals Ls k.val (.long v) = some Ls') (hp : pc + 1 = pc') (hr : oW p l e R s m args below meth c Z h0 P ds cells slots pc' Ls' (S)) : oW p l e R s m args below meth c Z h0 P ds cells slots pc Ls (.long v :: S) := by
  subst hp
  exact oW.pure (fun T locs X t k => XS.lstoreN X.here K.1.1 rfl (hb K.1.2.2.1 hd) rfl hl k) hr
theorem oW.dload (K : oK p s m meth c Z own by0 ml ret nm) {k : Nat} {v : UInt64} (hd : decode by0 pc = .ok (.dload k, 2)) (hl : Ls[k]? = some (.val (.double v))) (hp : pc + 2 = pc') (hr : oW p l e R s m args below meth c Z h0 P ds cells slots pc' Ls (.double v :: S)) : oW p l e R s m args below meth c Z h0 P ds cells slots pc Ls (S) := by
  subst hp
  exact oW.pure (fun T locs X t k => XS.dload X.here K.1.1 rfl (hb K.1.2.2.1 hd) hl k) hr
theorem oW.dloadN (K : oK p s m meth c Z own by0 ml ret nm) {k : Fin 4} {v : UInt64} (hd : decode by0 pc = .ok (.dload_n k, 1)) (hl : Ls[k.val]? = some (.val (.double v))) (hp : pc + 1 = pc') (hr : oW p l e R s m args below meth c Z h0 P ds cells slots pc' Ls (.double v :: S)) : oW p l e R s m args below meth c Z h0 P ds cells slots pc Ls (S) := by
  subst hp
  exact oW.pure (fun T locs X t k => XS.dloadN X.here K.1.1 rfl (hb K.1.2.2.1 hd) hl k) hr
theorem oW.dstore (K : oK p s m meth c Z own by0 ml ret nm) {k : Nat} {v : UInt64} (hd : decode by0 pc = .ok (.dstore k, 2)) (hl : storeLocals Ls k (.double v) = some Ls') (hp : pc + 2 = pc') (hr : oW p l e R s m args below meth c Z h0 P ds cells slots pc' Ls' (S)) : oW p l e R s m args below meth c Z h0 P ds cells slots pc Ls (.double v :: S) := by
  subst hp
  exact oW.pure (fun T locs X t k => XS.dstore X.here K.1.1 rfl (hb K.1.2.2.1 hd) rfl hl k) hr
theorem oW.dstoreN (K : oK p s m meth c Z own by0 ml ret nm) {k : Fin 4} {v : UInt64} (hd : decode by0 pc = .ok (.dstore_n k, 1)) (hl : storeLocals Ls k.val (.double v) = some Ls') (hp : pc + 1 = pc') (hr : oW p l e R s m args below meth c Z h0 P ds cells slots pc' Ls' (S)) : oW p l e R s m args below meth c Z h0 P ds cells slots pc Ls (.double v :: S) := by
  subst hp
  exact oW.pure (fun T locs X t k => XS.dstoreN X.here K.1.1 rfl (hb K.1.2.2.1 hd) rfl hl k) hr
theorem oW.aload (K : oK p s m meth c Z own by0 ml ret nm) {k : Nat} {v : Value} (hd : decode by0 pc = .ok (.aload k, 2)) (hl : Ls[k]? = some (.val v)) (hv : v.isRef = true) (hp : pc + 2 = pc') (hr : oW p l e R s m args below meth c Z h0 P ds cells slots pc' Ls (v :: S)) : oW p l e R s m args below meth c Z h0 P ds cells slots pc Ls (S) := by
  subst hp
  exact oW.pure (fun T locs X t k => XS.aload X.here K.1.1 rfl (hb K.1.2.2.1 hd) hl hv k) hr
theorem oW.aloadN (K : oK p s m meth c Z own by0 ml ret nm) {k : Fin 4} {v : Value} (hd : decode by0 pc = .ok (.aload_n k, 1)) (hl : Ls[k.val]? = some (.val v)) (hv : v.isRef = true) (hp : pc + 1 = pc') (hr : oW p l e R s m args below meth c Z h0 P ds cells slots pc' Ls (v :: S)) : oW p l e R s m args below meth c Z h0 P ds cells slots pc Ls (S) := by
  subst hp
  exact oW.pure (fun T locs X t k => XS.aloadN X.here K.1.1 rfl (hb K.1.2.2.1 hd) hl hv k) hr
theorem oW.astore (K : oK p s m meth c Z own by0 ml ret nm) {k : Nat} {v : Value} (hd : decode by0 pc = .ok (.astore k, 2)) (hv : v.isRef = true) (hl : storeLocals Ls k v = some Ls') (hp : pc + 2 = pc') (hr : oW p l e R s m args below meth c Z h0 P ds cells slots pc' Ls' (S)) : oW p l e R s m args below meth c Z h0 P ds cells slots pc Ls (v :: S) := by
  subst hp
  exact oW.pure (fun T locs X t k => XS.astore X.here K.1.1 rfl (hb K.1.2.2.1 hd) rfl hv hl k) hr
theorem oW.astoreN (K : oK p s m meth c Z own by0 ml ret nm) {k : Fin 4} {v : Value} (hd : decode by0 pc = .ok (.astore_n k, 1)) (hv : v.isRef = true) (hl : storeLocals Ls k.val v = some Ls') (hp : pc + 1 = pc') (hr : oW p l e R s m args below meth c Z h0 P ds cells slots pc' Ls' (S)) : oW p l e R s m args below meth c Z h0 P ds cells slots pc Ls (v :: S) := by
  subst hp
  exact oW.pure (fun T locs X t k => XS.astoreN X.here K.1.1 rfl (hb K.1.2.2.1 hd) rfl hv hl k) hr
theorem oW.aconstNull (K : oK p s m meth c Z own by0 ml ret nm)  (hd : decode by0 pc = .ok (.aconst_null, 1))  (hp : pc + 1 = pc') (hr : oW p l e R s m args below meth c Z h0 P ds cells slots pc' Ls (.null :: S)) : oW p l e R s m args below meth c Z h0 P ds cells slots pc Ls (S) := by
  subst hp
  exact oW.pure (fun T locs X t k => XS.aconstNull X.here K.1.1 rfl (hb K.1.2.2.1 hd) k) hr
theorem oW.iconst (K : oK p s m meth c Z own by0 ml ret nm) {i : Int} {v : Int32} (hd : decode by0 pc = .ok (.iconst i, 1)) (hv : v = Int32.ofInt i) (hp : pc + 1 = pc') (hr : oW p l e R s m args below meth c Z h0 P ds cells slots pc' Ls (.int v :: S)) : oW p l e R s m args below meth c Z h0 P ds cells slots pc Ls (S) := by
  subst hp hv
  exact oW.pure (fun T locs X t k => XS.iconst X.here K.1.1 rfl (hb K.1.2.2.1 hd) k) hr
theorem oW.bipush (K : oK p s m meth c Z own by0 ml ret nm) {i : Int} {v : Int32} (hd : decode by0 pc = .ok (.bipush i, 2)) (hv : v = (Int8.ofInt i).toInt32) (hp : pc + 2 = pc') (hr : oW p l e R s m args below meth c Z h0 P ds cells slots pc' Ls (.int v :: S)) : oW p l e R s m args below meth c Z h0 P ds cells slots pc Ls (S) := by
  subst hp hv
  exact oW.pure (fun T locs X t k => XS.bipush X.here K.1.1 rfl (hb K.1.2.2.1 hd) k) hr
theorem oW.sipush (K : oK p s m meth c Z own by0 ml ret nm) {i : Int} {v : Int32} (hd : decode by0 pc = .ok (.sipush i, 3)) (hv : v = (Int16.ofInt i).toInt32) (hp : pc + 3 = pc') (hr : oW p l e R s m args below meth c Z h0 P ds cells slots pc' Ls (.int v :: S)) : oW p l e R s m args below meth c Z h0 P ds cells slots pc Ls (S) := by
  subst hp hv
  exact oW.pure (fun T locs X t k => XS.sipush X.here K.1.1 rfl (hb K.1.2.2.1 hd) k) hr
theorem oW.lconst (K : oK p s m meth c Z own by0 ml ret nm) {k : Fin 2} {v : Int64} (hd : decode by0 pc = .ok (.lconst k, 1)) (hv : v = Int64.ofNat k.val) (hp : pc + 1 = pc') (hr : oW p l e R s m args below meth c Z h0 P ds cells slots pc' Ls (.long v :: S)) : oW p l e R s m args below meth c Z h0 P ds cells slots pc Ls (S) := by
  subst hp hv
  exact oW.pure (fun T locs X t k => XT.lconst X.here K.1.1 rfl (hb K.1.2.2.1 hd) k) hr
theorem oW.dconst0 (K : oK p s m meth c Z own by0 ml ret nm)  (hd : decode by0 pc = .ok (.dconst 0, 1))  (hp : pc + 1 = pc') (hr : oW p l e R s m args below meth c Z h0 P ds cells slots pc' Ls (.double 0 :: S)) : oW p l e R s m args below meth c Z h0 P ds cells slots pc Ls (S) := by
  subst hp
  exact oW.pure (fun T locs X t k => XS.dconst0 X.here K.1.1 rfl (hb K.1.2.2.1 hd) rfl k) hr
theorem oW.dconst1 (K : oK p s m meth c Z own by0 ml ret nm)  (hd : decode by0 pc = .ok (.dconst 1, 1))  (hp : pc + 1 = pc') (hr : oW p l e R s m args below meth c Z h0 P ds cells slots pc' Ls (.double 4607182418800017408 :: S)) : oW p l e R s m args below meth c Z h0 P ds cells slots pc Ls (S) := by
  subst hp
  exact oW.pure (fun T locs X t k => XS.dconst1 X.here K.1.1 rfl (hb K.1.2.2.1 hd) rfl k) hr
theorem oW.iadd (K : oK p s m meth c Z own by0 ml ret nm) {x y v : Int32} (hd : decode by0 pc = .ok (.iadd, 1)) (hv : v = x + y) (hp : pc + 1 = pc') (hr : oW p l e R s m args below meth c Z h0 P ds cells slots pc' Ls (.int v :: S)) : oW p l e R s m args below meth c Z h0 P ds cells slots pc Ls (.int y :: .int x :: S) := by
  subst hp hv
  exact oW.pure (fun T locs X t k => XS.iadd X.here K.1.1 rfl (hb K.1.2.2.1 hd) rfl k) hr
theorem oW.ladd (K : oK p s m meth c Z own by0 ml ret nm) {x y v : Int64} (hd : decode by0 pc = .ok (.ladd, 1)) (hv : v = x + y) (hp : pc + 1 = pc') (hr : oW p l e R s m args below meth c Z h0 P ds cells slots pc' Ls (.long v :: S)) : oW p l e R s m args below meth c Z h0 P ds cells slots pc Ls (.long y :: .long x :: S) := by
  subst hp hv
  exact oW.pure (fun T locs X t k => XT.ladd X.here K.1.1 rfl (hb K.1.2.2.1 hd) rfl k) hr
theorem oW.isub (K : oK p s m meth c Z own by0 ml ret nm) {x y v : Int32} (hd : decode by0 pc = .ok (.isub, 1)) (hv : v = x - y) (hp : pc + 1 = pc') (hr : oW p l e R s m args below meth c Z h0 P ds cells slots pc' Ls (.int v :: S)) : oW p l e R s m args below meth c Z h0 P ds cells slots pc Ls (.int y :: .int x :: S) := by
  subst hp hv
  exact oW.pure (fun T locs X t k => XS.isub X.here K.1.1 rfl (hb K.1.2.2.1 hd) rfl k) hr
theorem oW.lsub (K : oK p s m meth c Z own by0 ml ret nm) {x y v : Int64} (hd : decode by0 pc = .ok (.lsub, 1)) (hv : v = x - y) (hp : pc + 1 = pc') (hr : oW p l e R s m args below meth c Z h0 P ds cells slots pc' Ls (.long v :: S)) : oW p l e R s m args below meth c Z h0 P ds cells slots pc Ls (.long y :: .long x :: S) := by
  subst hp hv
  exact oW.pure (fun T locs X t k => XT.lsub X.here K.1.1 rfl (hb K.1.2.2.1 hd) rfl k) hr
theorem oW.imul (K : oK p s m meth c Z own by0 ml ret nm) {x y v : Int32} (hd : decode by0 pc = .ok (.imul, 1)) (hv : v = x * y) (hp : pc + 1 = pc') (hr : oW p l e R s m args below meth c Z h0 P ds cells slots pc' Ls (.int v :: S)) : oW p l e R s m args below meth c Z h0 P ds cells slots pc Ls (.int y :: .int x :: S) := by
  subst hp hv
  exact oW.pure (fun T locs X t k => XS.imul X.here K.1.1 rfl (hb K.1.2.2.1 hd) rfl k) hr
theorem oW.lmul (K : oK p s m meth c Z own by0 ml ret nm) {x y v : Int64} (hd : decode by0 pc = .ok (.lmul, 1)) (hv : v = x * y) (hp : pc + 1 = pc') (hr : oW p l e R s m args below meth c Z h0 P ds cells slots pc' Ls (.long v :: S)) : oW p l e R s m args below meth c Z h0 P ds cells slots pc Ls (.long y :: .long x :: S) := by
  subst hp hv
  exact oW.pure (fun T locs X t k => XT.lmul X.here K.1.1 rfl (hb K.1.2.2.1 hd) rfl k) hr
theorem oW.iand (K : oK p s m meth c Z own by0 ml ret nm) {x y v : Int32} (hd : decode by0 pc = .ok (.iand, 1)) (hv : v = x &&& y) (hp : pc + 1 = pc') (hr : oW p l e R s m args below meth c Z h0 P ds cells slots pc' Ls (.int v :: S)) : oW p l e R s m args below meth c Z h0 P ds cells slots pc Ls (.int y :: .int x :: S) := by
  subst hp hv
  exact oW.pure (fun T locs X t k => XS.iand X.here K.1.1 rfl (hb K.1.2.2.1 hd) rfl k) hr
theorem oW.land (K : oK p s m meth c Z own by0 ml ret nm) {x y v : Int64} (hd : decode by0 pc = .ok (.land, 1)) (hv : v = x &&& y) (hp : pc + 1 = pc') (hr : oW p l e R s m args below meth c Z h0 P ds cells slots pc' Ls (.long v :: S)) : oW p l e R s m args below meth c Z h0 P ds cells slots pc Ls (.long y :: .long x :: S) := by
  subst hp hv
  exact oW.pure (fun T locs X t k => XT.land X.here K.1.1 rfl (hb K.1.2.2.1 hd) rfl k) hr
theorem oW.ior (K : oK p s m meth c Z own by0 ml ret nm) {x y v : Int32} (hd : decode by0 pc = .ok (.ior, 1)) (hv : v = x ||| y) (hp : pc + 1 = pc') (hr : oW p l e R s m args below meth c Z h0 P ds cells slots pc' Ls (.int v :: S)) : oW p l e R s m args below meth c Z h0 P ds cells slots pc Ls (.int y :: .int x :: S) := by
  subst hp hv
  exact oW.pure (fun T locs X t k => XT.ior X.here K.1.1 rfl (hb K.1.2.2.1 hd) rfl k) hr
theorem oW.lor (K : oK p s m meth c Z own by0 ml ret nm) {x y v : Int64} (hd : decode by0 pc = .ok (.lor, 1)) (hv : v = x ||| y) (hp : pc + 1 = pc') (hr : oW p l e R s m args below meth c Z h0 P ds cells slots pc' Ls (.long v :: S)) : oW p l e R s m args below meth c Z h0 P ds cells slots pc Ls (.long y :: .long x :: S) := by
  subst hp hv
  exact oW.pure (fun T locs X t k => XT.lor X.here K.1.1 rfl (hb K.1.2.2.1 hd) rfl k) hr
theorem oW.ixor (K : oK p s m meth c Z own by0 ml ret nm) {x y v : Int32} (hd : decode by0 pc = .ok (.ixor, 1)) (hv : v = x ^^^ y) (hp : pc + 1 = pc') (hr : oW p l e R s m args below meth c Z h0 P ds cells slots pc' Ls (.int v :: S)) : oW p l e R s m args below meth c Z h0 P ds cells slots pc Ls (.int y :: .int x :: S) := by
  subst hp hv
  exact oW.pure (fun T locs X t k => XT.ixor X.here K.1.1 rfl (hb K.1.2.2.1 hd) rfl k) hr
theorem oW.lxor (K : oK p s m meth c Z own by0 ml ret nm) {x y v : Int64} (hd : decode by0 pc = .ok (.lxor, 1)) (hv : v = x ^^^ y) (hp : pc + 1 = pc') (hr : oW p l e R s m args below meth c Z h0 P ds cells slots pc' Ls (.long v :: S)) : oW p l e R s m args below meth c Z h0 P ds cells slots pc Ls (.long y :: .long x :: S) := by
  subst hp hv
  exact oW.pure (fun T locs X t k => XT.lxor X.here K.1.1 rfl (hb K.1.2.2.1 hd) rfl k) hr
theorem oW.idiv (K : oK p s m meth c Z own by0 ml ret nm) {x y v : Int32} (hd : decode by0 pc = .ok (.idiv, 1)) (hy : y ≠ 0) (hv : v = x / y) (hp : pc + 1 = pc') (hr : oW p l e R s m args below meth c Z h0 P ds cells slots pc' Ls (.int v :: S)) : oW p l e R s m args below meth c Z h0 P ds cells slots pc Ls (.int y :: .int x :: S) := by
  subst hp hv
  exact oW.pure (fun T locs X t k => XS.idiv X.here K.1.1 rfl (hb K.1.2.2.1 hd) rfl hy k) hr
theorem oW.irem (K : oK p s m meth c Z own by0 ml ret nm) {x y v : Int32} (hd : decode by0 pc = .ok (.irem, 1)) (hy : y ≠ 0) (hv : v = x % y) (hp : pc + 1 = pc') (hr : oW p l e R s m args below meth c Z h0 P ds cells slots pc' Ls (.int v :: S)) : oW p l e R s m args below meth c Z h0 P ds cells slots pc Ls (.int y :: .int x :: S) := by
  subst hp hv
  exact oW.pure (fun T locs X t k => iremM X K.1.1 rfl (hb K.1.2.2.1 hd) rfl hy k) hr
theorem oW.ineg (K : oK p s m meth c Z own by0 ml ret nm) {x v : Int32} (hd : decode by0 pc = .ok (.ineg, 1)) (hv : v = -x) (hp : pc + 1 = pc') (hr : oW p l e R s m args below meth c Z h0 P ds cells slots pc' Ls (.int v :: S)) : oW p l e R s m args below meth c Z h0 P ds cells slots pc Ls (.int x :: S) := by
  subst hp hv
  exact oW.pure (fun T locs X t k => XS.ineg X.here K.1.1 rfl (hb K.1.2.2.1 hd) rfl k) hr
theorem oW.ishl (K : oK p s m meth c Z own by0 ml ret nm) {x y v : Int32} (hd : decode by0 pc = .ok (.ishl, 1)) (hv : v = x <<< (y &&& 31)) (hp : pc + 1 = pc') (hr : oW p l e R s m args below meth c Z h0 P ds cells slots pc' Ls (.int v :: S)) : oW p l e R s m args below meth c Z h0 P ds cells slots pc Ls (.int y :: .int x :: S) := by
  subst hp hv
  exact oW.pure (fun T locs X t k => XT.ishl X.here K.1.1 rfl (hb K.1.2.2.1 hd) rfl k) hr
theorem oW.ishr (K : oK p s m meth c Z own by0 ml ret nm) {x y v : Int32} (hd : decode by0 pc = .ok (.ishr, 1)) (hv : v = x >>> (y &&& 31)) (hp : pc + 1 = pc') (hr : oW p l e R s m args below meth c Z h0 P ds cells slots pc' Ls (.int v :: S)) : oW p l e R s m args below meth c Z h0 P ds cells slots pc Ls (.int y :: .int x :: S) := by
  subst hp hv
  exact oW.pure (fun T locs X t k => XT.ishr X.here K.1.1 rfl (hb K.1.2.2.1 hd) rfl k) hr
theorem oW.iushr (K : oK p s m meth c Z own by0 ml ret nm) {x y v : Int32} (hd : decode by0 pc = .ok (.iushr, 1)) (hv : v = XT.ushr x y) (hp : pc + 1 = pc') (hr : oW p l e R s m args below meth c Z h0 P ds cells slots pc' Ls (.int v :: S)) : oW p l e R s m args below meth c Z h0 P ds cells slots pc Ls (.int y :: .int x :: S) := by
  subst hp hv
  exact oW.pure (fun T locs X t k => XT.iushr X.here K.1.1 rfl (hb K.1.2.2.1 hd) rfl k) hr
theorem oW.iinc (K : oK p s m meth c Z own by0 ml ret nm) {k : Nat} {cst : Int} {x v : Int32} (hd : decode by0 pc = .ok (.iinc k cst, 3)) (hl : Ls[k]? = some (.val (.int x))) (hv : v = x + Int32.ofInt cst) (hs : storeLocals Ls k (.int v) = some Ls') (hp : pc + 3 = pc') (hr : oW p l e R s m args below meth c Z h0 P ds cells slots pc' Ls' (S)) : oW p l e R s m args below meth c Z h0 P ds cells slots pc Ls (S) := by
  subst hp hv
  exact oW.pure (fun T locs X t k => XS.iinc X.here K.1.1 rfl (hb K.1.2.2.1 hd) hl hs k) hr
theorem oW.i2l (K : oK p s m meth c Z own by0 ml ret nm) {x : Int32} {v : Int64} (hd : decode by0 pc = .ok (.i2l, 1)) (hv : v = x.toInt64) (hp : pc + 1 = pc') (hr : oW p l e R s m args below meth c Z h0 P ds cells slots pc' Ls (.long v :: S)) : oW p l e R s m args below meth c Z h0 P ds cells slots pc Ls (.int x :: S) := by
  subst hp hv
  exact oW.pure (fun T locs X t k => XT.i2l X.here K.1.1 rfl (hb K.1.2.2.1 hd) rfl k) hr
theorem oW.l2i (K : oK p s m meth c Z own by0 ml ret nm) {x : Int64} {v : Int32} (hd : decode by0 pc = .ok (.l2i, 1)) (hv : v = x.toInt32) (hp : pc + 1 = pc') (hr : oW p l e R s m args below meth c Z h0 P ds cells slots pc' Ls (.int v :: S)) : oW p l e R s m args below meth c Z h0 P ds cells slots pc Ls (.long x :: S) := by
  subst hp hv
  exact oW.pure (fun T locs X t k => XT.l2i X.here K.1.1 rfl (hb K.1.2.2.1 hd) rfl k) hr
theorem oW.i2s (K : oK p s m meth c Z own by0 ml ret nm) {x v : Int32} (hd : decode by0 pc = .ok (.i2s, 1)) (hv : v = x.toInt16.toInt32) (hp : pc + 1 = pc') (hr : oW p l e R s m args below meth c Z h0 P ds cells slots pc' Ls (.int v :: S)) : oW p l e R s m args below meth c Z h0 P ds cells slots pc Ls (.int x :: S) := by
  subst hp hv
  exact oW.pure (fun T locs X t k => XT.i2s X.here K.1.1 rfl (hb K.1.2.2.1 hd) rfl k) hr
theorem oW.lshl (K : oK p s m meth c Z own by0 ml ret nm) {x v : Int64} {y : Int32} (hd : decode by0 pc = .ok (.lshl, 1)) (hv : v = x <<< (y.toInt64 &&& 63)) (hp : pc + 1 = pc') (hr : oW p l e R s m args below meth c Z h0 P ds cells slots pc' Ls (.long v :: S)) : oW p l e R s m args below meth c Z h0 P ds cells slots pc Ls (.int y :: .long x :: S) := by
  subst hp hv
  exact oW.pure (fun T locs X t k => XT.lshl X.here K.1.1 rfl (hb K.1.2.2.1 hd) rfl k) hr
theorem oW.lshr (K : oK p s m meth c Z own by0 ml ret nm) {x v : Int64} {y : Int32} (hd : decode by0 pc = .ok (.lshr, 1)) (hv : v = x >>> (y.toInt64 &&& 63)) (hp : pc + 1 = pc') (hr : oW p l e R s m args below meth c Z h0 P ds cells slots pc' Ls (.long v :: S)) : oW p l e R s m args below meth c Z h0 P ds cells slots pc Ls (.int y :: .long x :: S) := by
  subst hp hv
  exact oW.pure (fun T locs X t k => XT.lshr X.here K.1.1 rfl (hb K.1.2.2.1 hd) rfl k) hr
theorem oW.lushr (K : oK p s m meth c Z own by0 ml ret nm) {x v : Int64} {y : Int32} (hd : decode by0 pc = .ok (.lushr, 1)) (hv : v = XT.ushrL x y) (hp : pc + 1 = pc') (hr : oW p l e R s m args below meth c Z h0 P ds cells slots pc' Ls (.long v :: S)) : oW p l e R s m args below meth c Z h0 P ds cells slots pc Ls (.int y :: .long x :: S) := by
  subst hp hv
  exact oW.pure (fun T locs X t k => XT.lushr X.here K.1.1 rfl (hb K.1.2.2.1 hd) rfl k) hr
theorem oW.lcmp (K : oK p s m meth c Z own by0 ml ret nm) {x y : Int64} {v : Int32} (hd : decode by0 pc = .ok (.lcmp, 1)) (hv : v = XT.cmpL x y) (hp : pc + 1 = pc') (hr : oW p l e R s m args below meth c Z h0 P ds cells slots pc' Ls (.int v :: S)) : oW p l e R s m args below meth c Z h0 P ds cells slots pc Ls (.long y :: .long x :: S) := by
  subst hp hv
  exact oW.pure (fun T locs X t k => XT.lcmp X.here K.1.1 rfl (hb K.1.2.2.1 hd) rfl k) hr
theorem oW.i2d (K : oK p s m meth c Z own by0 ml ret nm) {x : Int32} {v : UInt64} (hd : decode by0 pc = .ok (.i2d, 1)) (hv : v = FP.i2d x) (hp : pc + 1 = pc') (hr : oW p l e R s m args below meth c Z h0 P ds cells slots pc' Ls (.double v :: S)) : oW p l e R s m args below meth c Z h0 P ds cells slots pc Ls (.int x :: S) := by
  subst hp hv
  exact oW.pure (fun T locs X t k => XS.i2dS X.here K.1.1 rfl (hb K.1.2.2.1 hd) rfl rfl k) hr
theorem oW.l2d (K : oK p s m meth c Z own by0 ml ret nm) {x : Int64} {v : UInt64} (hd : decode by0 pc = .ok (.l2d, 1)) (hv : v = FP.l2d x) (hp : pc + 1 = pc') (hr : oW p l e R s m args below meth c Z h0 P ds cells slots pc' Ls (.double v :: S)) : oW p l e R s m args below meth c Z h0 P ds cells slots pc Ls (.long x :: S) := by
  subst hp hv
  exact oW.pure (fun T locs X t k => XS.l2dS X.here K.1.1 rfl (hb K.1.2.2.1 hd) rfl rfl k) hr
theorem oW.dcmp (K : oK p s m meth c Z own by0 ml ret nm) {o : CmpOp} {x y : UInt64} {v : Int32} (hd : decode by0 pc = .ok (.dcmp o, 1)) (hv : v = cmpValue (FP.dcmp x y) o) (hp : pc + 1 = pc') (hr : oW p l e R s m args below meth c Z h0 P ds cells slots pc' Ls (.int v :: S)) : oW p l e R s m args below meth c Z h0 P ds cells slots pc Ls (.double y :: .double x :: S) := by
  subst hp hv
  exact oW.pure (fun T locs X t k => XS.dcmpS X.here K.1.1 rfl (hb K.1.2.2.1 hd) rfl rfl k) hr
theorem oW.dadd (K : oK p s m meth c Z own by0 ml ret nm) {x y v : UInt64} (hd : decode by0 pc = .ok (.dadd, 1)) (hv : v = FP.dadd x y) (hn : Jvm.Free.Fl.NoNaN64 v) (hp : pc + 1 = pc') (hr : oW p l e R s m args below meth c Z h0 P ds cells slots pc' Ls (.double v :: S)) : oW p l e R s m args below meth c Z h0 P ds cells slots pc Ls (.double y :: .double x :: S) := by
  subst hp hv
  exact oW.pure (fun T locs X t k => XS.daddS X.here K.1.1 rfl (hb K.1.2.2.1 hd) rfl hn rfl k) hr
theorem oW.dsub (K : oK p s m meth c Z own by0 ml ret nm) {x y v : UInt64} (hd : decode by0 pc = .ok (.dsub, 1)) (hv : v = FP.dsub x y) (hn : Jvm.Free.Fl.NoNaN64 v) (hp : pc + 1 = pc') (hr : oW p l e R s m args below meth c Z h0 P ds cells slots pc' Ls (.double v :: S)) : oW p l e R s m args below meth c Z h0 P ds cells slots pc Ls (.double y :: .double x :: S) := by
  subst hp hv
  exact oW.pure (fun T locs X t k => XS.dsubS X.here K.1.1 rfl (hb K.1.2.2.1 hd) rfl hn rfl k) hr
theorem oW.dmul (K : oK p s m meth c Z own by0 ml ret nm) {x y v : UInt64} (hd : decode by0 pc = .ok (.dmul, 1)) (hv : v = FP.dmul x y) (hn : Jvm.Free.Fl.NoNaN64 v) (hp : pc + 1 = pc') (hr : oW p l e R s m args below meth c Z h0 P ds cells slots pc' Ls (.double v :: S)) : oW p l e R s m args below meth c Z h0 P ds cells slots pc Ls (.double y :: .double x :: S) := by
  subst hp hv
  exact oW.pure (fun T locs X t k => XS.dmulS X.here K.1.1 rfl (hb K.1.2.2.1 hd) rfl hn rfl k) hr
theorem oW.ddiv (K : oK p s m meth c Z own by0 ml ret nm) {x y v : UInt64} (hd : decode by0 pc = .ok (.ddiv, 1)) (hv : v = FP.ddiv x y) (hn : Jvm.Free.Fl.NoNaN64 v) (hp : pc + 1 = pc') (hr : oW p l e R s m args below meth c Z h0 P ds cells slots pc' Ls (.double v :: S)) : oW p l e R s m args below meth c Z h0 P ds cells slots pc Ls (.double y :: .double x :: S) := by
  subst hp hv
  exact oW.pure (fun T locs X t k => XS.ddivS X.here K.1.1 rfl (hb K.1.2.2.1 hd) rfl hn rfl k) hr
theorem oW.dup (K : oK p s m meth c Z own by0 ml ret nm) {x : Value} (hd : decode by0 pc = .ok (.dup, 1)) (hc : x.category = 1) (hp : pc + 1 = pc') (hr : oW p l e R s m args below meth c Z h0 P ds cells slots pc' Ls (x :: x :: S)) : oW p l e R s m args below meth c Z h0 P ds cells slots pc Ls (x :: S) := by
  subst hp
  exact oW.pure (fun T locs X t k => XS.dup X.here K.1.1 rfl (hb K.1.2.2.1 hd) rfl hc k) hr
theorem oW.pop (K : oK p s m meth c Z own by0 ml ret nm) {x : Value} (hd : decode by0 pc = .ok (.pop, 1)) (hc : x.category = 1) (hp : pc + 1 = pc') (hr : oW p l e R s m args below meth c Z h0 P ds cells slots pc' Ls (S)) : oW p l e R s m args below meth c Z h0 P ds cells slots pc Ls (x :: S) := by
  subst hp
  exact oW.pure (fun T locs X t k => XT.pop X.here K.1.1 rfl (hb K.1.2.2.1 hd) rfl hc k) hr
theorem oW.dup2 (K : oK p s m meth c Z own by0 ml ret nm) {x y : Value} (hd : decode by0 pc = .ok (.dup2, 1)) (hc : x.category = 1) (hc' : y.category = 1) (hp : pc + 1 = pc') (hr : oW p l e R s m args below meth c Z h0 P ds cells slots pc' Ls (x :: y :: x :: y :: S)) : oW p l e R s m args below meth c Z h0 P ds cells slots pc Ls (x :: y :: S) := by
  subst hp
  exact oW.pure (fun T locs X t k => XT.dup2 X.here K.1.1 rfl (hb K.1.2.2.1 hd) rfl hc hc' k) hr
theorem oW.dupX1 (K : oK p s m meth c Z own by0 ml ret nm) {x y : Value} (hd : decode by0 pc = .ok (.dup_x1, 1)) (hc : x.category = 1) (hc' : y.category = 1) (hp : pc + 1 = pc') (hr : oW p l e R s m args below meth c Z h0 P ds cells slots pc' Ls (x :: y :: x :: S)) : oW p l e R s m args below meth c Z h0 P ds cells slots pc Ls (x :: y :: S) := by
  subst hp
  exact oW.pure (fun T locs X t k => XT.dupX1 X.here K.1.1 rfl (hb K.1.2.2.1 hd) rfl hc hc' k) hr
theorem oW.goto (K : oK p s m meth c Z own by0 ml ret nm) {o : Int} (hd : decode by0 pc = .ok (.goto o, 3)) (ho : 0 ≤ (pc : Int) + o) (hp : ((pc : Int) + o).toNat = pc') (hr : oW p l e R s m args below meth c Z h0 P ds cells slots pc' Ls S) : oW p l e R s m args below meth c Z h0 P ds cells slots pc Ls S :=
  oW.pure (fun T locs X t k => XS.goto X.here K.1.1 rfl rfl (hb K.1.2.2.1 hd) ho hp k) hr
theorem oW.ifc (K : oK p s m meth c Z own by0 ml ret nm) {cd : ClassFile.Cond} {o : Int} {x : Int32} {pc3 : Nat} (hd : decode by0 pc = .ok (.ifCond cd o, 3)) (ho : 0 ≤ (pc : Int) + o) (hp : ((pc : Int) + o).toNat = pc') (h3 : pc + 3 = pc3) (hy : if_icmp.holds cd x 0 = true → oW p l e R s m args below meth c Z h0 P ds cells slots pc' Ls S) (hn : if_icmp.holds cd x 0 = false → oW p l e R s m args below meth c Z h0 P ds cells slots pc3 Ls S) : oW p l e R s m args below meth c Z h0 P ds cells slots pc Ls (.int x :: S) := by
  subst h3
  cases q : if_icmp.holds cd x 0
  · exact oW.pure (fun T locs X t k => XS.ifNo X.here K.1.1 rfl (hb K.1.2.2.1 hd) rfl ((if0 _ _).trans q) k) (hn q)
  · exact oW.pure (fun T locs X t k => XS.ifYes X.here K.1.1 rfl rfl (hb K.1.2.2.1 hd) rfl ((if0 _ _).trans q) ho hp k) (hy q)
theorem oW.icc (K : oK p s m meth c Z own by0 ml ret nm) {cd : ClassFile.Cond} {o : Int} {x y : Int32} {pc3 : Nat} (hd : decode by0 pc = .ok (.if_icmp cd o, 3)) (ho : 0 ≤ (pc : Int) + o) (hp : ((pc : Int) + o).toNat = pc') (h3 : pc + 3 = pc3) (hy : if_icmp.holds cd x y = true → oW p l e R s m args below meth c Z h0 P ds cells slots pc' Ls S) (hn : if_icmp.holds cd x y = false → oW p l e R s m args below meth c Z h0 P ds cells slots pc3 Ls S) : oW p l e R s m args below meth c Z h0 P ds cells slots pc Ls (.int y :: .int x :: S) := by
  subst h3
  cases q : if_icmp.holds cd x y
  · exact oW.pure (fun T locs X t k => XS.icmpNo X.here K.1.1 rfl (hb K.1.2.2.1 hd) rfl q k) (hn q)
  · exact oW.pure (fun T locs X t k => XS.icmpYes X.here K.1.1 rfl rfl (hb K.1.2.2.1 hd) rfl q ho hp k) (hy q)
theorem oH_lt {x y : Int32} : (if_icmp.holds .lt x y = true → x < y) ∧ (if_icmp.holds .lt x y = false → ¬ x < y) := ⟨fun q => Decidable.byContradiction (fun r => absurd q (by rw [(flt r).1]; decide)), fun q r => absurd q (by rw [(tlt r).1]; decide)⟩
theorem oH_ge {x y : Int32} : (if_icmp.holds .ge x y = true → ¬ x < y) ∧ (if_icmp.holds .ge x y = false → x < y) := ⟨fun q r => absurd q (by rw [(tlt r).2.1]; decide), fun q => Decidable.byContradiction (fun r => absurd q (by rw [(flt r).2.1]; decide))⟩
theorem oH_gt {x y : Int32} : (if_icmp.holds .gt x y = true → y < x) ∧ (if_icmp.holds .gt x y = false → ¬ y < x) := ⟨fun q => Decidable.byContradiction (fun r => absurd q (by rw [(flt r).2.2.1]; decide)), fun q r => absurd q (by rw [(tlt r).2.2.1]; decide)⟩
theorem oH_le {x y : Int32} : (if_icmp.holds .le x y = true → ¬ y < x) ∧ (if_icmp.holds .le x y = false → y < x) := ⟨fun q r => absurd q (by rw [(tlt r).2.2.2]; decide), fun q => Decidable.byContradiction (fun r => absurd q (by rw [(flt r).2.2.2]; decide))⟩
theorem oH_eq {x y : Int32} : (if_icmp.holds .eq x y = true → x = y) ∧ (if_icmp.holds .eq x y = false → ¬ x = y) := ⟨fun q => Decidable.byContradiction (fun r => absurd q (by rw [(feq r).1]; decide)), fun q r => absurd q (by rw [(teq r).1]; decide)⟩
theorem oH_ne {x y : Int32} : (if_icmp.holds .ne x y = true → ¬ x = y) ∧ (if_icmp.holds .ne x y = false → x = y) := ⟨fun q r => absurd q (by rw [(teq r).2]; decide), fun q => Decidable.byContradiction (fun r => absurd q (by rw [(feq r).2]; decide))⟩
theorem oW.if_lt (K : oK p s m meth c Z own by0 ml ret nm) {o : Int} {x : Int32} {pc3 : Nat} (hd : decode by0 pc = .ok (.ifCond .lt o, 3)) (ho : 0 ≤ (pc : Int) + o) (hp : ((pc : Int) + o).toNat = pc') (h3 : pc + 3 = pc3) (hy : x < 0 → oW p l e R s m args below meth c Z h0 P ds cells slots pc' Ls S) (hn : ¬ x < 0 → oW p l e R s m args below meth c Z h0 P ds cells slots pc3 Ls S) : oW p l e R s m args below meth c Z h0 P ds cells slots pc Ls (.int x :: S) :=
  oW.ifc K hd ho hp h3 (fun q => hy (oH_lt.1 q)) (fun q => hn (oH_lt.2 q))
theorem oW.icmp_lt (K : oK p s m meth c Z own by0 ml ret nm) {o : Int} {x y : Int32} {pc3 : Nat} (hd : decode by0 pc = .ok (.if_icmp .lt o, 3)) (ho : 0 ≤ (pc : Int) + o) (hp : ((pc : Int) + o).toNat = pc') (h3 : pc + 3 = pc3) (hy : x < y → oW p l e R s m args below meth c Z h0 P ds cells slots pc' Ls S) (hn : ¬ x < y → oW p l e R s m args below meth c Z h0 P ds cells slots pc3 Ls S) : oW p l e R s m args below meth c Z h0 P ds cells slots pc Ls (.int y :: .int x :: S) :=
  oW.icc K hd ho hp h3 (fun q => hy (oH_lt.1 q)) (fun q => hn (oH_lt.2 q))
theorem oW.if_ge (K : oK p s m meth c Z own by0 ml ret nm) {o : Int} {x : Int32} {pc3 : Nat} (hd : decode by0 pc = .ok (.ifCond .ge o, 3)) (ho : 0 ≤ (pc : Int) + o) (hp : ((pc : Int) + o).toNat = pc') (h3 : pc + 3 = pc3) (hy : ¬ x < 0 → oW p l e R s m args below meth c Z h0 P ds cells slots pc' Ls S) (hn : x < 0 → oW p l e R s m args below meth c Z h0 P ds cells slots pc3 Ls S) : oW p l e R s m args below meth c Z h0 P ds cells slots pc Ls (.int x :: S) :=
  oW.ifc K hd ho hp h3 (fun q => hy (oH_ge.1 q)) (fun q => hn (oH_ge.2 q))
theorem oW.icmp_ge (K : oK p s m meth c Z own by0 ml ret nm) {o : Int} {x y : Int32} {pc3 : Nat} (hd : decode by0 pc = .ok (.if_icmp .ge o, 3)) (ho : 0 ≤ (pc : Int) + o) (hp : ((pc : Int) + o).toNat = pc') (h3 : pc + 3 = pc3) (hy : ¬ x < y → oW p l e R s m args below meth c Z h0 P ds cells slots pc' Ls S) (hn : x < y → oW p l e R s m args below meth c Z h0 P ds cells slots pc3 Ls S) : oW p l e R s m args below meth c Z h0 P ds cells slots pc Ls (.int y :: .int x :: S) :=
  oW.icc K hd ho hp h3 (fun q => hy (oH_ge.1 q)) (fun q => hn (oH_ge.2 q))
theorem oW.if_gt (K : oK p s m meth c Z own by0 ml ret nm) {o : Int} {x : Int32} {pc3 : Nat} (hd : decode by0 pc = .ok (.ifCond .gt o, 3)) (ho : 0 ≤ (pc : Int) + o) (hp : ((pc : Int) + o).toNat = pc') (h3 : pc + 3 = pc3) (hy : 0 < x → oW p l e R s m args below meth c Z h0 P ds cells slots pc' Ls S) (hn : ¬ 0 < x → oW p l e R s m args below meth c Z h0 P ds cells slots pc3 Ls S) : oW p l e R s m args below meth c Z h0 P ds cells slots pc Ls (.int x :: S) :=
  oW.ifc K hd ho hp h3 (fun q => hy (oH_gt.1 q)) (fun q => hn (oH_gt.2 q))
theorem oW.icmp_gt (K : oK p s m meth c Z own by0 ml ret nm) {o : Int} {x y : Int32} {pc3 : Nat} (hd : decode by0 pc = .ok (.if_icmp .gt o, 3)) (ho : 0 ≤ (pc : Int) + o) (hp : ((pc : Int) + o).toNat = pc') (h3 : pc + 3 = pc3) (hy : y < x → oW p l e R s m args below meth c Z h0 P ds cells slots pc' Ls S) (hn : ¬ y < x → oW p l e R s m args below meth c Z h0 P ds cells slots pc3 Ls S) : oW p l e R s m args below meth c Z h0 P ds cells slots pc Ls (.int y :: .int x :: S) :=
  oW.icc K hd ho hp h3 (fun q => hy (oH_gt.1 q)) (fun q => hn (oH_gt.2 q))
theorem oW.if_le (K : oK p s m meth c Z own by0 ml ret nm) {o : Int} {x : Int32} {pc3 : Nat} (hd : decode by0 pc = .ok (.ifCond .le o, 3)) (ho : 0 ≤ (pc : Int) + o) (hp : ((pc : Int) + o).toNat = pc') (h3 : pc + 3 = pc3) (hy : ¬ 0 < x → oW p l e R s m args below meth c Z h0 P ds cells slots pc' Ls S) (hn : 0 < x → oW p l e R s m args below meth c Z h0 P ds cells slots pc3 Ls S) : oW p l e R s m args below meth c Z h0 P ds cells slots pc Ls (.int x :: S) :=
  oW.ifc K hd ho hp h3 (fun q => hy (oH_le.1 q)) (fun q => hn (oH_le.2 q))
theorem oW.icmp_le (K : oK p s m meth c Z own by0 ml ret nm) {o : Int} {x y : Int32} {pc3 : Nat} (hd : decode by0 pc = .ok (.if_icmp .le o, 3)) (ho : 0 ≤ (pc : Int) + o) (hp : ((pc : Int) + o).toNat = pc') (h3 : pc + 3 = pc3) (hy : ¬ y < x → oW p l e R s m args below meth c Z h0 P ds cells slots pc' Ls S) (hn : y < x → oW p l e R s m args below meth c Z h0 P ds cells slots pc3 Ls S) : oW p l e R s m args below meth c Z h0 P ds cells slots pc Ls (.int y :: .int x :: S) :=
  oW.icc K hd ho hp h3 (fun q => hy (oH_le.1 q)) (fun q => hn (oH_le.2 q))
theorem oW.if_eq (K : oK p s m meth c Z own by0 ml ret nm) {o : Int} {x : Int32} {pc3 : Nat} (hd : decode by0 pc = .ok (.ifCond .eq o, 3)) (ho : 0 ≤ (pc : Int) + o) (hp : ((pc : Int) + o).toNat = pc') (h3 : pc + 3 = pc3) (hy : x = 0 → oW p l e R s m args below meth c Z h0 P ds cells slots pc' Ls S) (hn : ¬ x = 0 → oW p l e R s m args below meth c Z h0 P ds cells slots pc3 Ls S) : oW p l e R s m args below meth c Z h0 P ds cells slots pc Ls (.int x :: S) :=
  oW.ifc K hd ho hp h3 (fun q => hy (oH_eq.1 q)) (fun q => hn (oH_eq.2 q))
theorem oW.icmp_eq (K : oK p s m meth c Z own by0 ml ret nm) {o : Int} {x y : Int32} {pc3 : Nat} (hd : decode by0 pc = .ok (.if_icmp .eq o, 3)) (ho : 0 ≤ (pc : Int) + o) (hp : ((pc : Int) + o).toNat = pc') (h3 : pc + 3 = pc3) (hy : x = y → oW p l e R s m args below meth c Z h0 P ds cells slots pc' Ls S) (hn : ¬ x = y → oW p l e R s m args below meth c Z h0 P ds cells slots pc3 Ls S) : oW p l e R s m args below meth c Z h0 P ds cells slots pc Ls (.int y :: .int x :: S) :=
  oW.icc K hd ho hp h3 (fun q => hy (oH_eq.1 q)) (fun q => hn (oH_eq.2 q))
theorem oW.if_ne (K : oK p s m meth c Z own by0 ml ret nm) {o : Int} {x : Int32} {pc3 : Nat} (hd : decode by0 pc = .ok (.ifCond .ne o, 3)) (ho : 0 ≤ (pc : Int) + o) (hp : ((pc : Int) + o).toNat = pc') (h3 : pc + 3 = pc3) (hy : ¬ x = 0 → oW p l e R s m args below meth c Z h0 P ds cells slots pc' Ls S) (hn : x = 0 → oW p l e R s m args below meth c Z h0 P ds cells slots pc3 Ls S) : oW p l e R s m args below meth c Z h0 P ds cells slots pc Ls (.int x :: S) :=
  oW.ifc K hd ho hp h3 (fun q => hy (oH_ne.1 q)) (fun q => hn (oH_ne.2 q))
theorem oW.icmp_ne (K : oK p s m meth c Z own by0 ml ret nm) {o : Int} {x y : Int32} {pc3 : Nat} (hd : decode by0 pc = .ok (.if_icmp .ne o, 3)) (ho : 0 ≤ (pc : Int) + o) (hp : ((pc : Int) + o).toNat = pc') (h3 : pc + 3 = pc3) (hy : ¬ x = y → oW p l e R s m args below meth c Z h0 P ds cells slots pc' Ls S) (hn : x = y → oW p l e R s m args below meth c Z h0 P ds cells slots pc3 Ls S) : oW p l e R s m args below meth c Z h0 P ds cells slots pc Ls (.int y :: .int x :: S) :=
  oW.icc K hd ho hp h3 (fun q => hy (oH_ne.1 q)) (fun q => hn (oH_ne.2 q))
theorem oW.ifnullNo (K : oK p s m meth c Z own by0 ml ret nm) {o : Int} {b : Addr} (hd : decode by0 pc = .ok (.ifnull o, 3)) (hp : pc + 3 = pc') (hr : oW p l e R s m args below meth c Z h0 P ds cells slots pc' Ls S) : oW p l e R s m args below meth c Z h0 P ds cells slots pc Ls (.ref b :: S) := by
  subst hp
  exact oW.pure (fun T locs X t k => XS.ifnullNo X.here K.1.1 rfl (hb K.1.2.2.1 hd) rfl k) hr
theorem oW.ifnullYes (K : oK p s m meth c Z own by0 ml ret nm) {o : Int} (hd : decode by0 pc = .ok (.ifnull o, 3)) (ho : 0 ≤ (pc : Int) + o) (hp : ((pc : Int) + o).toNat = pc') (hr : oW p l e R s m args below meth c Z h0 P ds cells slots pc' Ls S) : oW p l e R s m args below meth c Z h0 P ds cells slots pc Ls (.null :: S) :=
  oW.pure (fun T locs X t k => XS.ifnullYes X.here K.1.1 rfl rfl (hb K.1.2.2.1 hd) rfl ho hp k) hr
theorem oW.ifnonnullYes (K : oK p s m meth c Z own by0 ml ret nm) {o : Int} {b : Addr} (hd : decode by0 pc = .ok (.ifnonnull o, 3)) (ho : 0 ≤ (pc : Int) + o) (hp : ((pc : Int) + o).toNat = pc') (hr : oW p l e R s m args below meth c Z h0 P ds cells slots pc' Ls S) : oW p l e R s m args below meth c Z h0 P ds cells slots pc Ls (.ref b :: S) :=
  oW.pure (fun T locs X t k => XT.ifnonnullYes X.here K.1.1 rfl rfl (hb K.1.2.2.1 hd) rfl ho hp k) hr
theorem oW.ldcI (K : oK p s m meth c Z own by0 ml ret nm) {index : Nat} {v : Int32} (w : (Jvm.Cond.constant own index v).before a0 Z = true) (hd : decode by0 pc = .ok (.ldc index, 2)) (hp : pc + 2 = pc') (hr : oW p l e R s m args below meth c Z h0 P ds cells slots pc' Ls (.int v :: S)) : oW p l e R s m args below meth c Z h0 P ds cells slots pc Ls S := by
  subst hp
  exact oW.pure (fun T locs X t k => X.ldcInt K.1.1 K.2.1 (mv K.1.2.1 w) (g := mkF m pc Ls S) rfl (hb K.1.2.2.1 hd) t k) hr
theorem oW.ldc2D (K : oK p s m meth c Z own by0 ml ret nm) {index : Nat} {v : UInt64} (w : (Jvm.Cond.constantDouble own index v).before a0 Z = true) (hd : decode by0 pc = .ok (.ldc2_w index, 3)) (hp : pc + 3 = pc') (hr : oW p l e R s m args below meth c Z h0 P ds cells slots pc' Ls (.double v :: S)) : oW p l e R s m args below meth c Z h0 P ds cells slots pc Ls S := by
  subst hp
  exact oW.pure (fun T locs X t k => X.ldc2DoubleC K.1.1 K.2.1 (mv K.1.2.1 w) (g := mkF m pc Ls S) rfl (hb K.1.2.2.1 hd) t k) hr
theorem oW.ldc2L (K : oK p s m meth c Z own by0 ml ret nm) {index : Nat} {v : Int64} (w : (Jvm.Cond.constantLong own index v).before a0 Z = true) (hd : decode by0 pc = .ok (.ldc2_w index, 3)) (hp : pc + 3 = pc') (hr : oW p l e R s m args below meth c Z h0 P ds cells slots pc' Ls (.long v :: S)) : oW p l e R s m args below meth c Z h0 P ds cells slots pc Ls S := by
  subst hp
  exact oW.pure (fun T locs X t k => X.ldc2Long K.1.1 K.2.1 (mv K.1.2.1 w) (g := mkF m pc Ls S) rfl (hb K.1.2.2.1 hd) t k) hr
theorem oLen {vs : List Value} {j : Int32} {k : Nat} {v : Value} {c : Cell} (hj : j = Int32.ofNat k) (hk : k < 2 ^ 31) (hv : vs[k]? = some v) (hs : c.slots = vs.toArray) : ¬ (j < 0 ∨ c.slots.size ≤ j.toNatClampNeg) ∧ c.slots[j.toNatClampNeg]? = some v := by
  subst hj
  have e : (Int32.ofNat k).toNatClampNeg = k := Int32.toNatClampNeg_ofNat_of_lt hk
  have l := (List.getElem?_eq_some_iff.mp hv).1
  rw [e, hs]
  refine ⟨fun q => q.elim (Int32.ofNat_not_neg hk) (fun r => by simp at r; omega), by simpa using hv⟩
theorem oW.iaload (K : oK p s m meth c Z own by0 ml ret nm) {i k : Nat} {a : Addr} {vs : List Value} {j : Int32} {v : Value} (hd : decode by0 pc = .ok (.iaload, 1)) (hi : ds[i]? = some (a, .inl (.int, vs))) (hj : j = Int32.ofNat k) (hk : k < 2 ^ 31) (hv : vs[k]? = some v) (hp : pc + 1 = pc') (hr : oW p l e R s m args below meth c Z h0 P ds cells slots pc' Ls (v :: S)) : oW p l e R s m args below meth c Z h0 P ds cells slots pc Ls (.int j :: .ref a :: S) := by
  subst hp
  rintro T ⟨locs, X, N, M⟩
  obtain ⟨cl, A, hs⟩ := (M.2.2 i _ hi).2
  obtain ⟨q1, q2⟩ := oLen hj hk hv hs
  exact oW.ends (fun t k => X.iaload K.1.1 A.1 (State.isArrayOf_alike K.1.2.1.alike A.2.1) A.2.2 q1 q2 (g := mkF m pc Ls (.int j :: .ref a :: S)) rfl rfl (hb K.1.2.2.1 hd) t k) (hr T ⟨locs, X, N, M⟩)
theorem oW.daload (K : oK p s m meth c Z own by0 ml ret nm) {i k : Nat} {a : Addr} {vs : List Value} {j : Int32} {v : Value} (hd : decode by0 pc = .ok (.daload, 1)) (hi : ds[i]? = some (a, .inl (.double, vs))) (hj : j = Int32.ofNat k) (hk : k < 2 ^ 31) (hv : vs[k]? = some v) (hp : pc + 1 = pc') (hr : oW p l e R s m args below meth c Z h0 P ds cells slots pc' Ls (v :: S)) : oW p l e R s m args below meth c Z h0 P ds cells slots pc Ls (.int j :: .ref a :: S) := by
  subst hp
  rintro T ⟨locs, X, N, M⟩
  obtain ⟨cl, A, hs⟩ := (M.2.2 i _ hi).2
  obtain ⟨q1, q2⟩ := oLen hj hk hv hs
  exact oW.ends (fun t k => X.daload K.1.1 A.1 (State.isArrayOf_alike K.1.2.1.alike A.2.1) A.2.2 q1 q2 (g := mkF m pc Ls (.int j :: .ref a :: S)) rfl rfl (hb K.1.2.2.1 hd) t k) (hr T ⟨locs, X, N, M⟩)
theorem oW.laload (K : oK p s m meth c Z own by0 ml ret nm) {i k : Nat} {a : Addr} {vs : List Value} {j : Int32} {v : Value} (hd : decode by0 pc = .ok (.laload, 1)) (hi : ds[i]? = some (a, .inl (.long, vs))) (hj : j = Int32.ofNat k) (hk : k < 2 ^ 31) (hv : vs[k]? = some v) (hp : pc + 1 = pc') (hr : oW p l e R s m args below meth c Z h0 P ds cells slots pc' Ls (v :: S)) : oW p l e R s m args below meth c Z h0 P ds cells slots pc Ls (.int j :: .ref a :: S) := by
  subst hp
  rintro T ⟨locs, X, N, M⟩
  obtain ⟨cl, A, hs⟩ := (M.2.2 i _ hi).2
  obtain ⟨q1, q2⟩ := oLen hj hk hv hs
  exact oW.ends (fun t k => X.laload K.1.1 A.1 (State.isArrayOf_alike K.1.2.1.alike A.2.1) A.2.2 q1 q2 (g := mkF m pc Ls (.int j :: .ref a :: S)) rfl rfl (hb K.1.2.2.1 hd) t k) (hr T ⟨locs, X, N, M⟩)
theorem oW.iastore (K : oK p s m meth c Z own by0 ml ret nm) {i k : Nat} {a : Addr} {vs : List Value} {j : Int32} {x : Int32} (hd : decode by0 pc = .ok (.iastore, 1)) (hi : ds[i]? = some (a, .inl (.int, vs))) (hj : j = Int32.ofNat k) (hk : k < 2 ^ 31) (hl : k < vs.length) (hds : ds.set i (a, .inl (.int, vs.set k (.int x))) = ds') (hp : pc + 1 = pc') (hr : oW p l e R s m args below meth c Z h0 P ds' cells slots pc' Ls S) : oW p l e R s m args below meth c Z h0 P ds cells slots pc Ls (.int x :: .int j :: .ref a :: S) := by
  subst hp hds
  rintro T ⟨locs, X, N, M⟩
  obtain ⟨ha, cl, A, hs⟩ := M.2.2 i _ hi
  obtain ⟨q1, q2⟩ := oLen hj hk (List.getElem?_eq_getElem hl) hs
  obtain ⟨T', h', X', e', Wr', st⟩ := stI X K.1.1 K.1.2.1 rfl A (x := x) q1 (g := mkF m pc Ls (.int x :: .int j :: .ref a :: S)) rfl rfl (hb K.1.2.2.1 hd)
  have ek : j.toNatClampNeg = k := by subst hj; exact Int32.toNatClampNeg_ofNat_of_lt hk
  refine oW.ends st (hr T' ⟨_, X', Fr.snoc X' N ha, ?_⟩)
  rw [e']
  refine M.put hi Wr' ⟨_, A.same Wr', ?_⟩
  rw [ek]; simp [Cell.setSlot, hs]
theorem oW.dastore (K : oK p s m meth c Z own by0 ml ret nm) {i k : Nat} {a : Addr} {vs : List Value} {j : Int32} {x : UInt64} (hd : decode by0 pc = .ok (.dastore, 1)) (hi : ds[i]? = some (a, .inl (.double, vs))) (hj : j = Int32.ofNat k) (hk : k < 2 ^ 31) (hl : k < vs.length) (hds : ds.set i (a, .inl (.double, vs.set k (.double x))) = ds') (hp : pc + 1 = pc') (hr : oW p l e R s m args below meth c Z h0 P ds' cells slots pc' Ls S) : oW p l e R s m args below meth c Z h0 P ds cells slots pc Ls (.double x :: .int j :: .ref a :: S) := by
  subst hp hds
  rintro T ⟨locs, X, N, M⟩
  obtain ⟨ha, cl, A, hs⟩ := M.2.2 i _ hi
  obtain ⟨q1, q2⟩ := oLen hj hk (List.getElem?_eq_getElem hl) hs
  obtain ⟨T', h', X', e', Wr', st⟩ := stD X K.1.1 K.1.2.1 rfl A (x := x) q1 (g := mkF m pc Ls (.double x :: .int j :: .ref a :: S)) rfl rfl (hb K.1.2.2.1 hd)
  have ek : j.toNatClampNeg = k := by subst hj; exact Int32.toNatClampNeg_ofNat_of_lt hk
  refine oW.ends st (hr T' ⟨_, X', Fr.snoc X' N ha, ?_⟩)
  rw [e']
  refine M.put hi Wr' ⟨_, A.same Wr', ?_⟩
  rw [ek]; simp [Cell.setSlot, hs]
theorem oW.lastore (K : oK p s m meth c Z own by0 ml ret nm) {i k : Nat} {a : Addr} {vs : List Value} {j : Int32} {x : Int64} (hd : decode by0 pc = .ok (.lastore, 1)) (hi : ds[i]? = some (a, .inl (.long, vs))) (hj : j = Int32.ofNat k) (hk : k < 2 ^ 31) (hl : k < vs.length) (hds : ds.set i (a, .inl (.long, vs.set k (.long x))) = ds') (hp : pc + 1 = pc') (hr : oW p l e R s m args below meth c Z h0 P ds' cells slots pc' Ls S) : oW p l e R s m args below meth c Z h0 P ds cells slots pc Ls (.long x :: .int j :: .ref a :: S) := by
  subst hp hds
  rintro T ⟨locs, X, N, M⟩
  obtain ⟨ha, cl, A, hs⟩ := M.2.2 i _ hi
  obtain ⟨q1, q2⟩ := oLen hj hk (List.getElem?_eq_getElem hl) hs
  obtain ⟨T', h', X', e', Wr', st⟩ := stJ X K.1.1 K.1.2.1 rfl A (x := x) q1 (g := mkF m pc Ls (.long x :: .int j :: .ref a :: S)) rfl rfl (hb K.1.2.2.1 hd)
  have ek : j.toNatClampNeg = k := by subst hj; exact Int32.toNatClampNeg_ofNat_of_lt hk
  refine oW.ends st (hr T' ⟨_, X', Fr.snoc X' N ha, ?_⟩)
  rw [e']
  refine M.put hi Wr' ⟨_, A.same Wr', ?_⟩
  rw [ek]; simp [Cell.setSlot, hs]
theorem oW.alen (K : oK p s m meth c Z own by0 ml ret nm) {i : Nat} {a : Addr} {ty : FieldType} {vs : List Value} {v : Int32} (hd : decode by0 pc = .ok (.arraylength, 1)) (hi : ds[i]? = some (a, .inl (ty, vs))) (hv : v = Int32.ofNat vs.length) (hp : pc + 1 = pc') (hr : oW p l e R s m args below meth c Z h0 P ds cells slots pc' Ls (.int v :: S)) : oW p l e R s m args below meth c Z h0 P ds cells slots pc Ls (.ref a :: S) := by
  subst hp
  rintro T ⟨locs, X, N, M⟩
  obtain ⟨cl, A, hs⟩ := (M.2.2 i _ hi).2
  have ev : v = cl.slots.size.toInt32 := by rw [hv, hs]; simp
  subst ev
  exact oW.ends (fun t k => X.arraylength K.1.1 A.1 (State.isArrayOf_alike K.1.2.1.alike A.2.1) (g := mkF m pc Ls (.ref a :: S)) rfl rfl (hb K.1.2.2.1 hd) t k) (hr T ⟨locs, X, N, M⟩)
theorem oW.newarr (K : oK p s m meth c Z own by0 ml ret nm) {aty : ArrayType} {j : Int32} {n : Nat} (w : (Jvm.Cond.arrayClass (newarray.typeOf aty)).before a0 Z = true) (hd : decode by0 pc = .ok (.newarray aty, 2)) (hj : j = Int32.ofNat n) (hn : n < 2 ^ 31) (hb8 : n * 8 ≤ 536870912) (hc : cells + 1 ≤ R.cells) (hs : slots + n ≤ R.slots) {cells' slots' : Nat} (hc' : cells + 1 = cells') (hs' : slots + n = slots') {dsf : Addr → oDs} (hds : ∀ a, ds ++ [(a, .inl (newarray.typeOf aty, List.replicate n (defaultValue (newarray.typeOf aty))))] = dsf a) (hp : pc + 2 = pc')
    (hr : ∀ a : Addr, h0.size ≤ a → oW p l e R s m args below meth c Z h0 P (dsf a) cells' slots' pc' Ls (.ref a :: S)) : oW p l e R s m args below meth c Z h0 P ds cells slots pc Ls (.int j :: S) := by
  subst hp hc' hs'
  rintro T ⟨locs, X, N, M⟩
  have ej : j.toNatClampNeg = n := by subst hj; exact Int32.toNatClampNeg_ofNat_of_lt hn
  obtain ⟨T', h', k, X', e', E', A', st⟩ := newP X K.1.1 K.1.2.1 w rfl (g := mkF m pc Ls (.int j :: S)) rfl (hb K.1.2.2.1 hd) rfl (by subst hj; exact Int32.ofNat_not_neg hn) (cap := n) (Nat.le_of_eq ej) hb8 hc hs
  refine oW.ends st (hr T.heap.size M.1.1 T' ⟨_, X', N, ?_⟩)
  rw [e', ← hds]
  refine M.push E' ⟨_, A', ?_⟩
  simp [newA, ej]
theorem oW.new (K : oK p s m meth c Z own by0 ml ret nm) {index n : Nat} {C : String} {fs : List (String × String × String × Value)} (w : (Jvm.Cond.classLink own index C).before a0 Z = true) (wi : (Jvm.Cond.instantiable C n).before a0 Z = true) (wz : (Jvm.Cond.initialized C).before a0 Z = true) (hL : ∀ f ∈ fs, Laid Z a0 C f.1 f.2.1 f.2.2.1 ∧ ∃ t, parseFieldDescriptor f.2.2.1 = some t ∧ f.2.2.2 = defaultValue t) (hd : decode by0 pc = .ok (.new index, 3)) (hc : cells + 1 ≤ R.cells) (hs : slots + n ≤ R.slots) {cells' slots' : Nat} (hc' : cells + 1 = cells') (hs' : slots + n = slots') {dsf : Addr → oDs} (hds : ∀ a, ds ++ [(a, .inr (C, fs))] = dsf a) (hp : pc + 3 = pc')
    (hr : ∀ a : Addr, h0.size ≤ a → oW p l e R s m args below meth c Z h0 P (dsf a) cells' slots' pc' Ls (.ref a :: S)) : oW p l e R s m args below meth c Z h0 P ds cells slots pc Ls S := by
  subst hp hc' hs'
  rintro T ⟨locs, X, N, M⟩
  obtain ⟨T', h', X', e', E', A', D', -, st⟩ := newO X K.1.1 K.1.2.1 K.2.1 w wi wz rfl (g := mkF m pc Ls S) rfl (hb K.1.2.2.1 hd) hc hs
  refine oW.ends st (hr T.heap.size M.1.1 T' ⟨_, X', N, ?_⟩)
  rw [e', ← hds]
  refine M.push E' ⟨A', fun f hf => ?_⟩
  obtain ⟨L, t, h1, h2⟩ := hL f hf
  rw [h2]; exact D' L h1
theorem oW.getf (K : oK p s m meth c Z own by0 ml ret nm) {index i q : Nat} {a : Addr} {C O n d : String} {fs : List (String × String × String × Value)} {v : Value} (w : (Jvm.Cond.fieldLink own index O n d).before a0 Z = true) (hd : decode by0 pc = .ok (.getfield index, 3)) (hi : ds[i]? = some (a, .inr (C, fs))) (hf : fs[q]? = some (O, n, d, v)) (hp : pc + 3 = pc') (hr : oW p l e R s m args below meth c Z h0 P ds cells slots pc' Ls (v :: S)) : oW p l e R s m args below meth c Z h0 P ds cells slots pc Ls (.ref a :: S) := by
  subst hp
  rintro T ⟨locs, X, N, M⟩
  obtain ⟨ha, hE, hF⟩ := M.2.2 i _ hi
  obtain ⟨T', X', e', st⟩ := getF X K.1.1 K.1.2.1 K.2.1 (host := "") (Or.inl w) Via.refl rfl (hF _ (List.mem_of_getElem? hf)) (g := mkF m pc Ls (.ref a :: S)) rfl rfl (hb K.1.2.2.1 hd)
  exact oW.ends st (hr T' ⟨_, X', N, by rw [e']; exact M⟩)
theorem oW.putf (K : oK p s m meth c Z own by0 ml ret nm) {index i q kk : Nat} {a : Addr} {C O n d : String} {fs : List (String × String × String × Value)} {v old : Value} {ty : FieldType} (w : (Jvm.Cond.fieldLink own index O n d).before a0 Z = true) (L : (Jvm.Cond.lays C O n d).before a0 Z = true ∨ ((Jvm.Cond.laysFinal C O n d).before a0 Z = true ∧ own = O ∧ nm = "<init>")) (wi : (Jvm.Cond.instantiable C kk).before a0 Z = true) (hap : oApart Z fs) (hd : decode by0 pc = .ok (.putfield index, 3)) (hi : ds[i]? = some (a, .inr (C, fs))) (hf : fs[q]? = some (O, n, d, old)) (hty : parseFieldDescriptor d = some ty) (hn : narrow ty v = v) (hfit : fits ty v = true) (hds : ds.set i (a, .inr (C, fs.set q (O, n, d, v))) = ds') (hp : pc + 3 = pc') (hr : oW p l e R s m args below meth c Z h0 P ds' cells slots pc' Ls S) : oW p l e R s m args below meth c Z h0 P ds cells slots pc Ls (v :: .ref a :: S) := by
  subst hp hds
  rintro T ⟨locs, X, N, M⟩
  obtain ⟨ha, hE, hF⟩ := M.2.2 i _ hi
  have hFq := hF _ (List.mem_of_getElem? hf)
  obtain ⟨T', h', X', e', Wr', st⟩ := putF X K.1.1 K.1.2.1 K.2.1 (host := "") (Or.inl w) Via.refl rfl hFq hE (L.imp id fun r => ⟨r.1, r.2.1, K.2.2.2.2.trans r.2.2⟩) wi hty hn hfit (g := mkF m pc Ls (v :: .ref a :: S)) rfl rfl (hb K.1.2.2.1 hd)
  refine oW.ends st (hr T' ⟨_, X', Fr.snoc X' N ha, ?_⟩)
  rw [e']
  refine M.put hi Wr' ⟨hE.wr Wr', fun f hf' => ?_⟩
  obtain ⟨r, hr'⟩ := List.getElem?_of_mem hf'
  rw [List.getElem?_set] at hr'
  split at hr'
  · rename_i er
    subst er
    rw [if_pos (List.getElem?_eq_some_iff.mp hf).1] at hr'
    cases hr'
    exact hFq.same Wr'
  · rename_i er
    have hh := hap r q f (O, n, d, old) (Ne.symm er) hr' hf
    exact (hF f (List.mem_of_getElem? hr')).other Wr' (Or.inr hh)
theorem oW.getst (K : oK p s m meth c Z own by0 ml ret nm) {index : Nat} {O n d : String} {v : Value} (w : (Jvm.Cond.fieldLink own index O n d).before a0 Z = true) (F : Sta Z h0 O n d v) (hd : decode by0 pc = .ok (.getstatic index, 3)) (hp : pc + 3 = pc') (hr : oW p l e R s m args below meth c Z h0 P ds cells slots pc' Ls (v :: S)) : oW p l e R s m args below meth c Z h0 P ds cells slots pc Ls S := by
  subst hp
  rintro T ⟨locs, X, N, M⟩
  obtain ⟨T', X', e', st⟩ := getS2 X K.1.1 K.1.2.1 K.2.1 (host := "") (Or.inl w) Via.refl rfl (F.ext M.1) (g := mkF m pc Ls S) rfl (hb K.1.2.2.1 hd)
  exact oW.ends st (hr T' ⟨_, X', N, by rw [e']; exact M⟩)
theorem oW.initO (K : oK p s m meth c Z own by0 ml ret nm) {idx : Nat} {a : Addr} {W : Nat} (w1 : (Jvm.Cond.methodLink own idx Lib.objectInit).before a0 Z = true) (w2 : (Jvm.Cond.instanceMethod Lib.objectInit).before a0 Z = true) (w3 : (Jvm.Cond.code Lib.objectInit ⟨#[0xb1]⟩ 1 none).before a0 Z = true) (hd : decode by0 pc = .ok (.invokespecial idx, 3)) (hsz : Ls.size = ml) (hf : 1 ≤ R.frames) (hW : (S.map fun v => v.category).sum ≤ W) (hl : W + 12 ≤ R.locals) (hp : pc + 3 = pc') (hr : oW p l e R s m args below meth c Z h0 P ds cells slots pc' Ls S) : oW p l e R s m args below meth c Z h0 P ds cells slots pc Ls (.ref a :: S) := by
  subst hp
  rintro T ⟨locs, X, N, M⟩
  obtain ⟨T', X', e', st⟩ := Jvm.RoadKit.initO X K.1.1 K.1.2.1 K.2.1 w1 w2 w3 rfl (g := mkF m pc Ls (.ref a :: S)) rfl (hsz.trans K.1.2.2.2.symm) rfl (hb K.1.2.2.1 hd) hf (W := W) (by show 2 * 0 + _ ≤ _; omega) hl
  exact oW.ends st (hr T' ⟨_, X', N, by rw [e']; exact M⟩)
theorem oW.leave (K : oK p s m meth c Z own by0 ml ret nm) {v : Option Value} (hv : ret = none → v = none) (hc : cells ≤ R.cells) (hs : slots ≤ R.slots) (hP : P v ds)
    (st : ∀ (T : State) (locs : List Loc) (fs : List Frame), Stand p l e R s m args below meth c T locs cells slots → (∀ (f : JFrame) (acts : List Action), f.method = m → f.locked = none → f.entered = [] → (doReturn e (T.setTop f) acts v).1 = T.setFrames fs) → Steps p.tables e below (T.setTop (mkF m pc Ls S)) (T.setFrames fs)) : oW p l e R s m args below meth c Z h0 P ds cells slots pc Ls S := by
  rintro T ⟨locs, X, N, M⟩
  obtain ⟨fs, hr, hrun, hended, hW, hsame⟩ := X.leave (v := v) (fun h => hv (K.2.2.1.symm.trans h)) K.2.2.2.1
  exact ⟨_, _, st T locs fs X hr, hrun, hended, v, locs, rfl, ⟨N, ds, hP, M⟩, ⟨_, rfl⟩, hW, hsame.mono hc hs⟩
theorem oW.retB (K : oK p s m meth c Z own by0 ml ret nm) {z : Int32} (hret : ret = some .boolean) (hd : decode by0 pc = .ok (.ireturn, 1)) (hc : cells ≤ R.cells) (hs : slots ≤ R.slots) (hP : P (some (.int (nar .boolean z))) ds) : oW p l e R s m args below meth c Z h0 P ds cells slots pc Ls (.int z :: S) :=
  oW.leave K (by rw [hret]; intro h; cases h) hc hs hP fun T locs fs X hr => retN X K.1.1 (t := .boolean) (K.2.2.1.trans hret) (Or.inl rfl) (hb K.1.2.2.1 hd) hr
theorem oW.retI (K : oK p s m meth c Z own by0 ml ret nm) {z : Int32} (hret : ret = some .int) (hd : decode by0 pc = .ok (.ireturn, 1)) (hc : cells ≤ R.cells) (hs : slots ≤ R.slots) (hP : P (some (.int z)) ds) : oW p l e R s m args below meth c Z h0 P ds cells slots pc Ls (.int z :: S) :=
  oW.leave K (by rw [hret]; intro h; cases h) hc hs hP fun T locs fs X hr => retOut X K.1.1 (K.2.2.1.trans hret) rfl (Or.inl ⟨rfl, Or.inl rfl, _, rfl⟩) (hb K.1.2.2.1 hd) hr
theorem oW.retJ (K : oK p s m meth c Z own by0 ml ret nm) {z : Int64} (hret : ret = some .long) (hd : decode by0 pc = .ok (.lreturn, 1)) (hc : cells ≤ R.cells) (hs : slots ≤ R.slots) (hP : P (some (.long z)) ds) : oW p l e R s m args below meth c Z h0 P ds cells slots pc Ls (.long z :: S) :=
  oW.leave K (by rw [hret]; intro h; cases h) hc hs hP fun T locs fs X hr => retOut X K.1.1 (K.2.2.1.trans hret) rfl (Or.inr (Or.inl ⟨rfl, rfl, _, rfl⟩)) (hb K.1.2.2.1 hd) hr
theorem oW.retD (K : oK p s m meth c Z own by0 ml ret nm) {z : UInt64} (hret : ret = some .double) (hd : decode by0 pc = .ok (.dreturn, 1)) (hc : cells ≤ R.cells) (hs : slots ≤ R.slots) (hP : P (some (.double z)) ds) : oW p l e R s m args below meth c Z h0 P ds cells slots pc Ls (.double z :: S) :=
  oW.leave K (by rw [hret]; intro h; cases h) hc hs hP fun T locs fs X hr => retOut X K.1.1 (K.2.2.1.trans hret) rfl (Or.inr (Or.inr (Or.inl ⟨rfl, rfl, _, rfl⟩))) (hb K.1.2.2.1 hd) hr
theorem oW.retA (K : oK p s m meth c Z own by0 ml ret nm) {a : Addr} {t : FieldType} (hret : ret = some t) (ht : t.isReference = true) (hn : narrow t (.ref a) = .ref a) (hd : decode by0 pc = .ok (.areturn, 1)) (hc : cells ≤ R.cells) (hs : slots ≤ R.slots) (hP : P (some (.ref a)) ds) : oW p l e R s m args below meth c Z h0 P ds cells slots pc Ls (.ref a :: S) :=
  oW.leave K (by rw [hret]; intro h; cases h) hc hs hP fun T locs fs X hr => retOut X K.1.1 (K.2.2.1.trans hret) hn (Or.inr (Or.inr (Or.inr (Or.inr ⟨rfl, ht, rfl⟩)))) (hb K.1.2.2.1 hd) hr
theorem oW.retV (K : oK p s m meth c Z own by0 ml ret nm) (hret : ret = none) (hd : decode by0 pc = .ok (.return_, 1)) (hc : cells ≤ R.cells) (hs : slots ≤ R.slots) (hP : P none ds) : oW p l e R s m args below meth c Z h0 P ds cells slots pc Ls [] :=
  oW.leave K (fun _ => rfl) hc hs hP fun T locs fs X hr => X.returnOut K.1.1 (K.2.2.1.trans hret) (hb K.1.2.2.1 hd) hr
theorem oW.callS (K : oK p s m meth c Z own by0 ml ret nm) {y : MethodName} {index : Nat} {by1 : ByteArray} {ml1 : Nat} {rt1 : Option FieldType} {rm : Room} {argsL : List Value} {P2 : Value → oDs → Prop} {W : Nat} {cells' slots' : Nat}
    (w1 : (Jvm.Cond.methodLink own index y).before a0 Z = true) (w2 : (Jvm.Cond.static y).before a0 Z = true) (w3 : (Jvm.Cond.initialized y.cls).before a0 Z = true) (w4 : (Jvm.Cond.code y by1 ml1 rt1).before a0 Z = true) (hy : y.cls ≠ "java/lang/invoke/MethodHandle" ∧ y.cls ≠ "java/lang/invoke/VarHandle")
    (C : oCtr l Z h0 [] y by1 ml1 rt1 rm argsL.toArray ds (oVal P2)) (hlen : ∀ sig, parseMethodDescriptor y.desc = some sig → argsL.length = sig.parameters.length) (hd : decode by0 pc = .ok (.invokestatic index, 3)) (hst : S' = argsL.reverse ++ S) (hsz : Ls.size = ml) (hW : (S.map fun v => v.category).sum ≤ W) (hf : rm.frames + 1 ≤ R.frames) (hl : W + (ml1 + 11) + rm.locals ≤ R.locals) (hc : cells + rm.cells ≤ R.cells) (hs : slots + rm.slots ≤ R.slots) (hc' : cells + rm.cells = cells') (hs' : slots + rm.slots = slots') (hp : pc + 3 = pc')
    (hr : ∀ w ds', P2 w ds' → oW p l e R s m args below meth c Z h0 P ds' cells' slots' pc' Ls (w :: S)) : oW p l e R s m args below meth c Z h0 P ds cells slots pc Ls S' := by
  subst hp hst hc' hs'
  rintro T ⟨locs, X, N, M⟩
  obtain ⟨v, vm1, ⟨T', L', k', n'⟩, -, X', ⟨Lc, hQ, l', y', z'⟩, st⟩ := Jvm.LawKit.callS X K.1.1 K.2.1 (mvT K.1.2.1 w1) (mvT K.1.2.1 w2) (mvT K.1.2.1 w3) (mvT K.1.2.1 w4) hy (backOf (W := W) (Q := fun v hp L => Fr h0.size L ∧ ∃ ds', (oVal P2) v ds' ∧ oMem Z h0 hp ds') (C T.heap M) K.1.2.1 w4 w3 hf hl) (g := mkF m pc Ls (argsL.reverse ++ S)) rfl (hsz.trans K.1.2.2.2.symm) (argsL := argsL) (rest := S) hlen rfl (by show 2 * 0 + _ ≤ _; omega) (hb K.1.2.2.1 hd) (fun _ _ => ⟨rfl, rfl, hc, hs⟩)
  dsimp only [Pt.U, Pt.locs, Pt.cells, Pt.slots] at X' l' y' z' st hQ
  subst l' y' z'
  obtain ⟨N', ds', hP, M'⟩ := hQ
  obtain ⟨w, rfl, hP⟩ := hP
  exact oW.ends st (hr w ds' hP T' ⟨_, X', N.app N', M'⟩)
theorem oW.callV (K : oK p s m meth c Z own by0 ml ret nm) {y z : MethodName} {C : String} {index : Nat} {by1 : ByteArray} {ml1 : Nat} {rt1 : Option FieldType} {rm : Room} {a : Addr} {argsL : List Value} {P2 : Value → oDs → Prop} {W : Nat} {cells' slots' : Nat}
    (w1 : (Jvm.Cond.methodLink own index y).before a0 Z = true) (w2 : (Jvm.Cond.declares y).before a0 Z = true) (w3 : (Jvm.Cond.selects C y z).before a0 Z = true) (w4 : (Jvm.Cond.instanceMethod z).before a0 Z = true) (w5 : (Jvm.Cond.code z by1 ml1 rt1).before a0 Z = true) (w6 : (Jvm.Cond.initialized z.cls).before a0 Z = true) (hy : y.cls ≠ "java/lang/invoke/MethodHandle" ∧ y.cls ≠ "java/lang/invoke/VarHandle")
    (hnf : ∀ s : State, Z.Warmed39 s.vm → NotFace s y) (hE : ∀ h, oMem Z h0 h ds → Exa Z h a C) (Ct : oCtr l Z h0 [] z by1 ml1 rt1 rm (.ref a :: argsL).toArray ds (oVal P2)) (hlen : ∀ sig, parseMethodDescriptor y.desc = some sig → argsL.length = sig.parameters.length) (hd : decode by0 pc = .ok (.invokevirtual index, 3)) (hst : S' = argsL.reverse ++ .ref a :: S) (hsz : Ls.size = ml) (hW : (S.map fun v => v.category).sum ≤ W) (hf : rm.frames + 1 ≤ R.frames) (hl : W + (ml1 + 11) + rm.locals ≤ R.locals) (hc : cells + rm.cells ≤ R.cells) (hs : slots + rm.slots ≤ R.slots) (hc' : cells + rm.cells = cells') (hs' : slots + rm.slots = slots') (hp : pc + 3 = pc')
    (hr : ∀ w ds', P2 w ds' → oW p l e R s m args below meth c Z h0 P ds' cells' slots' pc' Ls (w :: S)) : oW p l e R s m args below meth c Z h0 P ds cells slots pc Ls S' := by
  subst hp hst hc' hs'
  rintro T ⟨locs, X, N, M⟩
  obtain ⟨cq, kq, qa, qb, qc⟩ := isOf K.1.2.1 rfl (hE T.heap M)
  have w3' : (Jvm.Cond.selects C y z).before args s = true := mvT K.1.2.1 w3
  obtain ⟨v, vm1, ⟨T', L', k', n'⟩, -, X', ⟨Lc, hQ, l', y', z'⟩, st⟩ := X.virtualBack K.1.1 K.2.1 (mvT K.1.2.1 w1) (mvT K.1.2.1 w2) (hnf s K.1.2.1) w3' (mvT K.1.2.1 w4) hy (backOf (W := W) (Q := fun v hp L => Fr h0.size L ∧ ∃ ds', (oVal P2) v ds' ∧ oMem Z h0 hp ds') (Ct T.heap M) K.1.2.1 w5 w6 hf hl) qa qc (g := mkF m pc Ls (argsL.reverse ++ .ref a :: S)) rfl (hsz.trans K.1.2.2.2.symm) (Steps.refl _) (argsL := argsL) (rest := S) hlen rfl (by show 2 * 0 + _ ≤ _; omega) (hb K.1.2.2.1 hd) (fun _ _ => ⟨rfl, rfl, hc, hs⟩)
  dsimp only [Pt.U, Pt.locs, Pt.cells, Pt.slots] at X' l' y' z' st hQ
  subst l' y' z'
  obtain ⟨N', ds', hP, M'⟩ := hQ
  obtain ⟨w, rfl, hP⟩ := hP
  exact oW.ends (fun t k => st.trans k) (hr w ds' hP T' ⟨_, X', N.app N', M'⟩)
theorem oW.callS0 (K : oK p s m meth c Z own by0 ml ret nm) {y : MethodName} {index : Nat} {by1 : ByteArray} {ml1 : Nat} {rt1 : Option FieldType} {rm : Room} {argsL : List Value} {P2 : oDs → Prop} {W : Nat} {cells' slots' : Nat}
    (w1 : (Jvm.Cond.methodLink own index y).before a0 Z = true) (w2 : (Jvm.Cond.static y).before a0 Z = true) (w3 : (Jvm.Cond.initialized y.cls).before a0 Z = true) (w4 : (Jvm.Cond.code y by1 ml1 rt1).before a0 Z = true) (hy : y.cls ≠ "java/lang/invoke/MethodHandle" ∧ y.cls ≠ "java/lang/invoke/VarHandle")
    (C : oCtr l Z h0 [] y by1 ml1 rt1 rm argsL.toArray ds (oVoid P2)) (hlen : ∀ sig, parseMethodDescriptor y.desc = some sig → argsL.length = sig.parameters.length) (hd : decode by0 pc = .ok (.invokestatic index, 3)) (hst : S' = argsL.reverse ++ S) (hsz : Ls.size = ml) (hW : (S.map fun v => v.category).sum ≤ W) (hf : rm.frames + 1 ≤ R.frames) (hl : W + (ml1 + 11) + rm.locals ≤ R.locals) (hc : cells + rm.cells ≤ R.cells) (hs : slots + rm.slots ≤ R.slots) (hc' : cells + rm.cells = cells') (hs' : slots + rm.slots = slots') (hp : pc + 3 = pc')
    (hr : ∀ ds', P2 ds' → oW p l e R s m args below meth c Z h0 P ds' cells' slots' pc' Ls S) : oW p l e R s m args below meth c Z h0 P ds cells slots pc Ls S' := by
  subst hp hst hc' hs'
  rintro T ⟨locs, X, N, M⟩
  obtain ⟨v, vm1, ⟨T', L', k', n'⟩, -, X', ⟨Lc, hQ, l', y', z'⟩, st⟩ := Jvm.LawKit.callS X K.1.1 K.2.1 (mvT K.1.2.1 w1) (mvT K.1.2.1 w2) (mvT K.1.2.1 w3) (mvT K.1.2.1 w4) hy (backOf (W := W) (Q := fun v hp L => Fr h0.size L ∧ ∃ ds', (oVoid P2) v ds' ∧ oMem Z h0 hp ds') (C T.heap M) K.1.2.1 w4 w3 hf hl) (g := mkF m pc Ls (argsL.reverse ++ S)) rfl (hsz.trans K.1.2.2.2.symm) (argsL := argsL) (rest := S) hlen rfl (by show 2 * 0 + _ ≤ _; omega) (hb K.1.2.2.1 hd) (fun _ _ => ⟨rfl, rfl, hc, hs⟩)
  dsimp only [Pt.U, Pt.locs, Pt.cells, Pt.slots] at X' l' y' z' st hQ
  subst l' y' z'
  obtain ⟨N', ds', hP, M'⟩ := hQ
  obtain ⟨rfl, hP⟩ := hP
  exact oW.ends st (hr ds' hP T' ⟨_, X', N.app N', M'⟩)
theorem oW.callI (K : oK p s m meth c Z own by0 ml ret nm) {y : MethodName} {index : Nat} {by1 : ByteArray} {ml1 : Nat} {rm : Room} {a : Addr} {argsL : List Value} {P2 : oDs → Prop} {W : Nat} {cells' slots' : Nat} (hin : y.name = "<init>")
    (w1 : (Jvm.Cond.methodLink own index y).before a0 Z = true) (w2 : (Jvm.Cond.instanceMethod y).before a0 Z = true) (w3 : (Jvm.Cond.initialized y.cls).before a0 Z = true) (w4 : (Jvm.Cond.code y by1 ml1 none).before a0 Z = true) (hy : y.cls ≠ "java/lang/invoke/MethodHandle" ∧ y.cls ≠ "java/lang/invoke/VarHandle")
    (C : oCtr l Z h0 [] y by1 ml1 none rm (.ref a :: argsL).toArray ds (oVoid P2)) (hlen : ∀ sig, parseMethodDescriptor y.desc = some sig → argsL.length = sig.parameters.length) (hd : decode by0 pc = .ok (.invokespecial index, 3)) (hst : S' = argsL.reverse ++ .ref a :: S) (hsz : Ls.size = ml) (hW : (S.map fun v => v.category).sum ≤ W) (hf : rm.frames + 1 ≤ R.frames) (hl : W + (ml1 + 11) + rm.locals ≤ R.locals) (hc : cells + rm.cells ≤ R.cells) (hs : slots + rm.slots ≤ R.slots) (hc' : cells + rm.cells = cells') (hs' : slots + rm.slots = slots') (hp : pc + 3 = pc')
    (hr : ∀ ds', P2 ds' → oW p l e R s m args below meth c Z h0 P ds' cells' slots' pc' Ls S) : oW p l e R s m args below meth c Z h0 P ds cells slots pc Ls S' := by
  subst hp hst hc' hs'
  rintro T ⟨locs, X, N, M⟩
  obtain ⟨v, vm1, ⟨T', L', k', n'⟩, -, X', ⟨Lc, hQ, l', y', z'⟩, st⟩ := X.specialBack K.1.1 hin K.2.1 (mvT K.1.2.1 w1) (mvT K.1.2.1 w2) (mvT K.1.2.1 w4) hy (backOf (W := W) (Q := fun v hp L => Fr h0.size L ∧ ∃ ds', (oVoid P2) v ds' ∧ oMem Z h0 hp ds') (C T.heap M) K.1.2.1 w4 w3 hf hl) (g := mkF m pc Ls (argsL.reverse ++ .ref a :: S)) rfl (hsz.trans K.1.2.2.2.symm) (Steps.refl _) (a := a) (argsL := argsL) (rest := S) hlen rfl (by show 2 * 0 + _ ≤ _; omega) (hb K.1.2.2.1 hd) (fun _ _ => ⟨rfl, rfl, hc, hs⟩)
  dsimp only [Pt.U, Pt.locs, Pt.cells, Pt.slots] at X' l' y' z' st hQ
  subst l' y' z'
  obtain ⟨N', ds', hP, M'⟩ := hQ
  obtain ⟨rfl, hP⟩ := hP
  exact oW.ends (fun t k => st.trans k) (hr ds' hP T' ⟨_, X', N.app N', M'⟩)
theorem oW.callV0 (K : oK p s m meth c Z own by0 ml ret nm) {y z : MethodName} {C : String} {index : Nat} {by1 : ByteArray} {ml1 : Nat} {rt1 : Option FieldType} {rm : Room} {a : Addr} {argsL : List Value} {P2 : oDs → Prop} {W : Nat} {cells' slots' : Nat}
    (w1 : (Jvm.Cond.methodLink own index y).before a0 Z = true) (w2 : (Jvm.Cond.declares y).before a0 Z = true) (w3 : (Jvm.Cond.selects C y z).before a0 Z = true) (w4 : (Jvm.Cond.instanceMethod z).before a0 Z = true) (w5 : (Jvm.Cond.code z by1 ml1 rt1).before a0 Z = true) (w6 : (Jvm.Cond.initialized z.cls).before a0 Z = true) (hy : y.cls ≠ "java/lang/invoke/MethodHandle" ∧ y.cls ≠ "java/lang/invoke/VarHandle")
    (hnf : ∀ s : State, Z.Warmed39 s.vm → NotFace s y) (hE : ∀ h, oMem Z h0 h ds → Exa Z h a C) (Ct : oCtr l Z h0 [] z by1 ml1 rt1 rm (.ref a :: argsL).toArray ds (oVoid P2)) (hlen : ∀ sig, parseMethodDescriptor y.desc = some sig → argsL.length = sig.parameters.length) (hd : decode by0 pc = .ok (.invokevirtual index, 3)) (hst : S' = argsL.reverse ++ .ref a :: S) (hsz : Ls.size = ml) (hW : (S.map fun v => v.category).sum ≤ W) (hf : rm.frames + 1 ≤ R.frames) (hl : W + (ml1 + 11) + rm.locals ≤ R.locals) (hc : cells + rm.cells ≤ R.cells) (hs : slots + rm.slots ≤ R.slots) (hc' : cells + rm.cells = cells') (hs' : slots + rm.slots = slots') (hp : pc + 3 = pc')
    (hr : ∀ ds', P2 ds' → oW p l e R s m args below meth c Z h0 P ds' cells' slots' pc' Ls S) : oW p l e R s m args below meth c Z h0 P ds cells slots pc Ls S' := by
  subst hp hst hc' hs'
  rintro T ⟨locs, X, N, M⟩
  obtain ⟨cq, kq, qa, qb, qc⟩ := isOf K.1.2.1 rfl (hE T.heap M)
  have w3' : (Jvm.Cond.selects C y z).before args s = true := mvT K.1.2.1 w3
  obtain ⟨v, vm1, ⟨T', L', k', n'⟩, -, X', ⟨Lc, hQ, l', y', z'⟩, st⟩ := X.virtualBack K.1.1 K.2.1 (mvT K.1.2.1 w1) (mvT K.1.2.1 w2) (hnf s K.1.2.1) w3' (mvT K.1.2.1 w4) hy (backOf (W := W) (Q := fun v hp L => Fr h0.size L ∧ ∃ ds', (oVoid P2) v ds' ∧ oMem Z h0 hp ds') (Ct T.heap M) K.1.2.1 w5 w6 hf hl) qa qc (g := mkF m pc Ls (argsL.reverse ++ .ref a :: S)) rfl (hsz.trans K.1.2.2.2.symm) (Steps.refl _) (argsL := argsL) (rest := S) hlen rfl (by show 2 * 0 + _ ≤ _; omega) (hb K.1.2.2.1 hd) (fun _ _ => ⟨rfl, rfl, hc, hs⟩)
  dsimp only [Pt.U, Pt.locs, Pt.cells, Pt.slots] at X' l' y' z' st hQ
  subst l' y' z'
  obtain ⟨N', ds', hP, M'⟩ := hQ
  obtain ⟨rfl, hP⟩ := hP
  exact oW.ends (fun t k => st.trans k) (hr ds' hP T' ⟨_, X', N.app N', M'⟩)
theorem oNF {C : String} {y : MethodName} (w : (Jvm.Cond.selects C y y).before a0 Z = true) : ∀ s : State, Z.Warmed39 s.vm → NotFace s y := fun s hZ => notFace_of_selects (args := #[]) (mvT hZ w)
theorem oMem.exa {h : Heap} {i : Nat} {a : Addr} {C : String} {fs : List (String × String × String × Value)} (hi : ds[i]? = some (a, .inr (C, fs))) (M : oMem Z h0 h ds) : Exa Z h a C := (M.2.2 i _ hi).2.1
theorem oW.loop {α : Type} {F : α → Prop} {mu : α → Nat} {pcj : Nat} {Lf : α → Array Slot} {Sf : α → List Value} {dsf : α → oDs} (h : ∀ z, F z → (∀ z', F z' → mu z' < mu z → oW p l e R s m args below meth c Z h0 P (dsf z') cells slots pcj (Lf z') (Sf z')) → oW p l e R s m args below meth c Z h0 P (dsf z) cells slots pcj (Lf z) (Sf z)) : ∀ z, F z → oW p l e R s m args below meth c Z h0 P (dsf z) cells slots pcj (Lf z) (Sf z) := by
  intro z
  generalize hn : mu z = n
  induction n using Nat.strongRecOn generalizing z with
  | ind n ih => exact fun hz => h z hz fun z' hz' hl => ih (mu z') (by omega) z' rfl hz'
theorem oW.newarrC (K : oK p s m meth c Z own by0 ml ret nm) {aty : ArrayType} {j : Int32} {n cap : Nat} (w : (Jvm.Cond.arrayClass (newarray.typeOf aty)).before a0 Z = true) (hd : decode by0 pc = .ok (.newarray aty, 2)) (hj : j = Int32.ofNat n) (hn : n < 2 ^ 31) (hcap : n ≤ cap) (hb8 : cap * 8 ≤ 536870912) (hc : cells + 1 ≤ R.cells) (hs : slots + cap ≤ R.slots) {cells' slots' : Nat} (hc' : cells + 1 = cells') (hs' : slots + cap = slots') {dsf : Addr → oDs} (hds : ∀ a, ds ++ [(a, .inl (newarray.typeOf aty, List.replicate n (defaultValue (newarray.typeOf aty))))] = dsf a) (hp : pc + 2 = pc')
    (hr : ∀ a : Addr, h0.size ≤ a → oW p l e R s m args below meth c Z h0 P (dsf a) cells' slots' pc' Ls (.ref a :: S)) : oW p l e R s m args below meth c Z h0 P ds cells slots pc Ls (.int j :: S) := by
  subst hp hc' hs'
  rintro T ⟨locs, X, N, M⟩
  have ej : j.toNatClampNeg = n := by subst hj; exact Int32.toNatClampNeg_ofNat_of_lt hn
  obtain ⟨T', h', k, X', e', E', A', st⟩ := newP X K.1.1 K.1.2.1 w rfl (g := mkF m pc Ls (.int j :: S)) rfl (hb K.1.2.2.1 hd) rfl (by subst hj; exact Int32.ofNat_not_neg hn) (cap := cap) (by omega) hb8 hc hs
  refine oW.ends st (hr T.heap.size M.1.1 T' ⟨_, X', N, ?_⟩)
  rw [e', ← hds]
  refine M.push E' ⟨_, A', ?_⟩
  simp [newA, ej]
theorem oW.getfH (K : oK p s m meth c Z own by0 ml ret nm) {index : Nat} {a : Addr} {O n d : String} {v : Value} (w : (Jvm.Cond.fieldLink own index O n d).before a0 Z = true) (F : Fld Z h0 a O n d v) (hd : decode by0 pc = .ok (.getfield index, 3)) (hp : pc + 3 = pc') (hr : oW p l e R s m args below meth c Z h0 P ds cells slots pc' Ls (v :: S)) : oW p l e R s m args below meth c Z h0 P ds cells slots pc Ls (.ref a :: S) := by
  subst hp
  rintro T ⟨locs, X, N, M⟩
  obtain ⟨T', X', e', st⟩ := getF X K.1.1 K.1.2.1 K.2.1 (host := "") (Or.inl w) Via.refl rfl (F.ext M.1) (g := mkF m pc Ls (.ref a :: S)) rfl rfl (hb K.1.2.2.1 hd)
  exact oW.ends st (hr T' ⟨_, X', N, by rw [e']; exact M⟩)
theorem oNF2 {C : String} {y y' : MethodName} (w : (Jvm.Cond.selects C y' y').before a0 Z = true) (hc : y.cls = y'.cls) : ∀ s : State, Z.Warmed39 s.vm → NotFace s y := fun s hZ r0 h0 => by
  obtain ⟨c2, r2, m2, q1, q2, q3, q4, kP, hkP, hkPi⟩ := Cond.selects_spec (mvT (args := #[]) hZ w)
  have e1 := findClass_of_methodNamed h0
  have e2 := findClass_of_methodNamed q3
  rw [hc] at e1
  have e3 := Option.some.inj (e1.symm.trans e2)
  exact ⟨kP, by rw [e3]; exact hkP, hkPi⟩
end Steps
section Nums
open Jvm.FP Jvm.Free.Fl
theorem oN53 : (2 ^ 53 : Nat) = 9007199254740992 := by decide
theorem oTs : (0 : Int32).toInt = 0 ∧ (1 : Int32).toInt = 1 ∧ (2 : Int32).toInt = 2 ∧ (3 : Int32).toInt = 3 ∧ (4 : Int32).toInt = 4 ∧ (5 : Int32).toInt = 5 ∧ (6 : Int32).toInt = 6 ∧ (7 : Int32).toInt = 7 ∧ (8 : Int32).toInt = 8 ∧ (9 : Int32).toInt = 9 ∧ (-1 : Int32).toInt = -1 ∧ (0 : Int64).toInt = 0 ∧ (1 : Int64).toInt = 1 ∧ (2 : Int64).toInt = 2 ∧ (8 : Int64).toInt = 8 ∧ (-1 : Int64).toInt = -1 := by decide
theorem oB32 (x : Int32) : -2147483648 ≤ x.toInt ∧ x.toInt ≤ 2147483647 := by
  have h1 := Int32.le_toInt x; have h2 := Int32.toInt_lt x; omega
theorem oB64 (x : Int64) : -9223372036854775808 ≤ x.toInt ∧ x.toInt ≤ 9223372036854775807 := by
  have h1 := Int64.le_toInt x; have h2 := Int64.toInt_lt x; omega
theorem oNN {i : Int} {x : UInt64} (h : Core.DInt i x) : NoNaN64 x := val64_no.mpr (Core.DInt_ne_nan h)
theorem oI2D {a : Int32} {v : UInt64} (h : v = FP.i2d a) : Core.DInt a.toInt v := h ▸ Core.i2d_int a
theorem oL2D {a : Int64} {v : UInt64} (h : v = FP.l2d a) (b : -9007199254740992 ≤ a.toInt ∧ a.toInt ≤ 9007199254740992) : Core.DInt a.toInt v := h ▸ Core.l2d_int (by have := oN53; omega)
theorem oDK (i : Int) {x : UInt64} (h : FP.l2d (Int64.ofInt i) = x) (b : (Int64.ofInt i).toInt = i ∧ (Int64.ofInt i).toInt.natAbs ≤ 2 ^ 53) : Core.DInt i x := by
  have := Core.l2d_int b.2
  rw [b.1] at this; exact h ▸ this
theorem oDAdd {i j : Int} {x y v : UInt64} (hx : Core.DInt i x) (hy : Core.DInt j y) (h : v = FP.dadd x y) (b : -9007199254740992 ≤ i + j ∧ i + j ≤ 9007199254740992) : Core.DInt (i + j) v := h ▸ Core.dadd_int hx hy (by have := oN53; omega)
theorem oDSub {i j : Int} {x y v : UInt64} (hx : Core.DInt i x) (hy : Core.DInt j y) (h : v = FP.dsub x y) (b : -9007199254740992 ≤ i - j ∧ i - j ≤ 9007199254740992) : Core.DInt (i - j) v := h ▸ Core.dsub_int hx hy (by have := oN53; omega)
theorem oDMul {i j : Int} {x y v : UInt64} (hx : Core.DInt i x) (hy : Core.DInt j y) (h : v = FP.dmul x y) (b : -9007199254740992 ≤ i * j ∧ i * j ≤ 9007199254740992) : Core.DInt (i * j) v := h ▸ Core.dmul_int hx hy (by have := oN53; omega)
theorem oCmp {i j : Int} {x y : UInt64} {o : CmpOp} {v : Int32} (hx : Core.DInt i x) (hy : Core.DInt j y) (h : v = cmpValue (FP.dcmp x y) o) : (v < 0 ↔ i < j) ∧ (v = 0 ↔ i = j) ∧ (0 < v ↔ j < i) := by
  have e : FP.dcmp x y = some (compare i j) := Core.dcmp_int hx hy
  rw [h, e, Core.compare_ite]
  by_cases h1 : i < j
  · have h2 : ¬ i = j := by omega
    have h3 : ¬ j < i := by omega
    simp only [h1, if_true, h2, h3, iff_false, iff_true]
    cases o <;> decide
  · by_cases h2 : i = j
    · have h3 : ¬ j < i := by omega
      simp only [h1, h2, if_false, if_true, iff_true, Int.lt_irrefl, iff_false]
      cases o <;> decide
    · have h3 : j < i := by omega
      simp only [h1, h2, h3, if_false, iff_false, iff_true]
      cases o <;> decide
theorem oLadd {x y z : Int64} (h : z = x + y) (b : -9223372036854775808 ≤ x.toInt + y.toInt ∧ x.toInt + y.toInt ≤ 9223372036854775807) : z.toInt = x.toInt + y.toInt := by
  rw [h, Int64.toInt_add]; exact Int.bmod_eq_of_le (by omega) (by omega)
theorem oLsub {x y z : Int64} (h : z = x - y) (b : -9223372036854775808 ≤ x.toInt - y.toInt ∧ x.toInt - y.toInt ≤ 9223372036854775807) : z.toInt = x.toInt - y.toInt := by
  rw [h, Int64.toInt_sub]; exact Int.bmod_eq_of_le (by omega) (by omega)
theorem oLmul {x y z : Int64} (h : z = x * y) (b : -9223372036854775808 ≤ x.toInt * y.toInt ∧ x.toInt * y.toInt ≤ 9223372036854775807) : z.toInt = x.toInt * y.toInt := by
  rw [h, Int64.toInt_mul]; exact Int.bmod_eq_of_le (by omega) (by omega)
theorem oIadd {x y z : Int32} (h : z = x + y) (b : -2147483648 ≤ x.toInt + y.toInt ∧ x.toInt + y.toInt ≤ 2147483647) : z.toInt = x.toInt + y.toInt := by
  rw [h, Int32.toInt_add]; exact Int.bmod_eq_of_le (by omega) (by omega)
theorem oIsub {x y z : Int32} (h : z = x - y) (b : -2147483648 ≤ x.toInt - y.toInt ∧ x.toInt - y.toInt ≤ 2147483647) : z.toInt = x.toInt - y.toInt := by
  rw [h, Int32.toInt_sub]; exact Int.bmod_eq_of_le (by omega) (by omega)
theorem oImul {x y z : Int32} (h : z = x * y) (b : -2147483648 ≤ x.toInt * y.toInt ∧ x.toInt * y.toInt ≤ 2147483647) : z.toInt = x.toInt * y.toInt := by
  rw [h, Int32.toInt_mul]; exact Int.bmod_eq_of_le (by omega) (by omega)
theorem oI2L {x : Int32} {z : Int64} (h : z = x.toInt64) : z.toInt = x.toInt := by rw [h]; exact Int32.toInt_toInt64 x
theorem oLcmp {x y : Int64} {v : Int32} (h : v = XT.cmpL x y) : (v < 0 ↔ x.toInt < y.toInt) ∧ (v = 0 ↔ x.toInt = y.toInt) ∧ (0 < v ↔ y.toInt < x.toInt) := by
  rw [h, XT.cmpL]
  simp only [Int64.lt_iff_toInt_lt, ← Int64.toInt_inj]
  by_cases h1 : y.toInt < x.toInt
  · have h2 : ¬ x.toInt = y.toInt := by omega
    have h3 : ¬ x.toInt < y.toInt := by omega
    simp only [h1, h2, h3, if_true, iff_true, iff_false]; decide
  · by_cases h2 : x.toInt = y.toInt
    · have h3 : ¬ x.toInt < y.toInt := by omega
      simp only [h1, h2, if_false, if_true, iff_true, Int.lt_irrefl, iff_false]; decide
    · have h3 : x.toInt < y.toInt := by omega
      simp only [h1, h2, h3, if_false, iff_false, iff_true]; decide
theorem oLt32 {x y : Int32} : x < y ↔ x.toInt < y.toInt := Int32.lt_iff_toInt_lt
theorem oEq32 {x y : Int32} : x = y ↔ x.toInt = y.toInt := Int32.toInt_inj.symm
theorem oEq64 {x y : Int64} : x = y ↔ x.toInt = y.toInt := Int64.toInt_inj.symm
theorem oMask (x : Int32) (k : Nat) (hk : k < 2 ^ 31) : ∃ n : Nat, n ≤ k ∧ (x &&& Int32.ofNat k) = Int32.ofNat n := by
  refine ⟨(x &&& Int32.ofNat k).toBitVec.toNat, ?_, ?_⟩
  · have e : (Int32.ofNat k).toBitVec.toNat = k := by
      show (BitVec.ofNat 32 k).toNat = k
      rw [BitVec.toNat_ofNat]; exact Nat.mod_eq_of_lt (by omega)
    rw [Int32.toBitVec_and, BitVec.toNat_and, e]; exact Nat.and_le_right
  · apply Int32.toBitVec_inj.mp
    show _ = BitVec.ofNat 32 _
    rw [BitVec.ofNat_toNat]; simp
theorem oMask3 {x v : Int32} (h : v = x &&& 3) : v = 0 ∨ v = 1 ∨ v = 2 ∨ v = 3 := by
  obtain ⟨n, hn, e⟩ := oMask x 3 (by decide)
  have e' : v = Int32.ofNat n := h.trans e
  have : n = 0 ∨ n = 1 ∨ n = 2 ∨ n = 3 := by omega
  rcases this with rfl | rfl | rfl | rfl
  · exact Or.inl e'
  · exact Or.inr (Or.inl e')
  · exact Or.inr (Or.inr (Or.inl e'))
  · exact Or.inr (Or.inr (Or.inr e'))
theorem oMask1 {x v : Int32} (h : v = x &&& 1) : v = 0 ∨ v = 1 := by
  obtain ⟨n, hn, e⟩ := oMask x 1 (by decide)
  have e' : v = Int32.ofNat n := h.trans e
  have : n = 0 ∨ n = 1 := by omega
  rcases this with rfl | rfl
  · exact Or.inl e'
  · exact Or.inr e'
theorem oMaskR {x v : Int32} (k : Nat) (hk : k < 2 ^ 31) (h : v = x &&& Int32.ofNat k) : 0 ≤ v.toInt ∧ v.toInt ≤ k := by
  obtain ⟨n, hn, e⟩ := oMask x k hk
  rw [h, e, Int32.toInt_ofNat_of_lt (by omega)]; omega
theorem oRem {u v y : Int32} (k : Int) (h : v = u % y) (hy : y.toInt = k) (hu : 0 ≤ u.toInt) : v.toInt = u.toInt % k := h ▸ (c_irem u y k hy).1 hu
/-! how great a double can be: her exponent's field is below K -/
abbrev oMag (K : Nat) (x : UInt64) : Prop := Jvm.Free.Fl.Mag64 K x
theorem oMNN {K : Nat} {x : UInt64} (h : oMag K x) (hK : K ≤ 2047) : NoNaN64 x := (h.fin hK).noNaN
theorem oMI2D {a : Int32} {v : UInt64} (h : v = FP.i2d a) : oMag 1056 v := h ▸ i2d_mag a
theorem oML2D {a : Int64} {v : UInt64} (h : v = FP.l2d a) : oMag 1088 v := h ▸ l2d_mag a
theorem oMMul {A B K : Nat} {x y v : UInt64} (hx : oMag A x) (hy : oMag B y) (h : v = FP.dmul x y) (b : A ≤ 2047 ∧ B ≤ 2047 ∧ A + B - 1025 + 3 ≤ K) : oMag K v := h ▸ (dmul_mag hx hy b.1 b.2.1).mono b.2.2
theorem oMAdd {A K : Nat} {x y v : UInt64} (hx : oMag A x) (hy : oMag A y) (h : v = FP.dadd x y) (b : A ≤ 2047 ∧ A + 2 ≤ K) : oMag K v := h ▸ (dadd_mag hx hy b.1).mono b.2
theorem oMSub {A K : Nat} {x y v : UInt64} (hx : oMag A x) (hy : oMag A y) (h : v = FP.dsub x y) (b : A ≤ 2047 ∧ A + 2 ≤ K) : oMag K v := h ▸ (dsub_mag hx hy b.1).mono b.2
theorem oMDiv {A L K : Nat} {x y v : UInt64} (hx : oMag A x) (hy : Big64 L y) (h : v = FP.ddiv x y) (b : A ≤ 2047 ∧ 1 ≤ L ∧ A + 1021 - L + 3 ≤ K) : oMag K v := h ▸ (ddiv_mag hx hy b.1 b.2.1).mono b.2.2
theorem oSame {x y : UInt64} {o : CmpOp} {v : Int32} (e : v = cmpValue (FP.dcmp x y) o) (h : x = y) (n : NoNaN64 x) : v = 0 := e.trans (dcmpV_eq h n o)
/-! a double that is no NaN, by its value in units of the least double (an infinity counts as the first number past the greatest) -/
def oZv (i : Int) (x : UInt64) : Prop := Core.val64 x ≠ .nan ∧ Core.zval Core.b64 (Core.val64 x) = i
theorem oZv.of {x : UInt64} (h : NoNaN64 x) : oZv (Core.zval Core.b64 (Core.val64 x)) x := ⟨val64_no.mp h, rfl⟩
theorem oZv.nn {i : Int} {x : UInt64} (h : oZv i x) : NoNaN64 x := val64_no.mpr h.1
theorem oZv.int {i : Int} {x : UInt64} (h : Core.DInt i x) : oZv (i * (Core.one64 : Int)) x := ⟨Core.DInt_ne_nan h, Core.DInt_zval h⟩
theorem oZmono {i j : Int} (h : i ≤ j) : i * (Core.one64 : Int) ≤ j * (Core.one64 : Int) := Int.mul_le_mul_of_nonneg_right h (Int.natCast_nonneg _)
theorem oCmpZ {i j : Int} {x y : UInt64} {o : CmpOp} {v : Int32} (hx : oZv i x) (hy : oZv j y) (h : v = cmpValue (FP.dcmp x y) o) : (v < 0 ↔ i < j) ∧ (v = 0 ↔ i = j) ∧ (0 < v ↔ j < i) := by
  have e : FP.dcmp x y = some (compare i j) := by have := Core.dcmp_zval hx.1 hy.1; rw [hx.2, hy.2] at this; exact this
  rw [h, e, Core.compare_ite]
  by_cases h1 : i < j
  · have h2 : ¬ i = j := by omega
    have h3 : ¬ j < i := by omega
    simp only [h1, if_true, h2, h3, iff_false, iff_true]
    cases o <;> decide
  · by_cases h2 : i = j
    · have h3 : ¬ j < i := by omega
      simp only [h1, h2, if_false, if_true, iff_true, Int.lt_irrefl, iff_false]
      cases o <;> decide
    · have h3 : j < i := by omega
      simp only [h1, h2, h3, if_false, iff_false, iff_true]
      cases o <;> decide
end Nums
section Dy
open Jvm.FP Jvm.FP.Core
/-! doubles that are n / 2^k exactly: her value in units of the least double is n * 2^(1074 - k) -/
def oQ (n : Int) (k : Nat) (x : UInt64) : Prop := DFin x ∧ zval b64 (val64 x) = n * ((2 ^ (1074 - k) : Nat) : Int)
theorem oQ.nn {n : Int} {k : Nat} {x : UInt64} (h : oQ n k x) : Jvm.Free.Fl.NoNaN64 x := Jvm.Free.Fl.val64_no.mpr h.1.ne_nan
theorem oQ.zv {n : Int} {k : Nat} {x : UInt64} (h : oQ n k x) : oZv (n * ((2 ^ (1074 - k) : Nat) : Int)) x := ⟨h.1.ne_nan, h.2⟩
theorem oQ.fin {n : Int} {k : Nat} {x : UInt64} (h : oQ n k x) : ∃ s c q, val64 x = .fin s c q ∧ Core.fits b64 (Datum.fin s c q) ∧ signed s (inUnits c q b64.qmin) = n * ((2 ^ (1074 - k) : Nat) : Int) := by
  obtain ⟨⟨s, c, q, e⟩, z⟩ := h
  have f := val64_fits x
  rw [e] at f z
  exact ⟨s, c, q, e, f, z⟩
theorem oQ.int {i : Int} {x : UInt64} (h : DInt i x) : oQ i 0 x := by
  refine ⟨?_, ?_⟩
  · have h' : Whole i (val64 x) := h
    cases e : val64 x with
    | nan => rw [e] at h'; exact h'.elim
    | inf s => rw [e] at h'; exact h'.elim
    | fin s c q => exact ⟨s, c, q, e⟩
  · rw [DInt_zval h]; rfl
theorem oPowCancel {A B a b : Nat} (h : A * 2 ^ a = B * 2 ^ b) : A * 2 ^ (a - b) = B * 2 ^ (b - a) := by
  rcases Nat.le_total a b with q | q
  · have e : 2 ^ b = 2 ^ (b - a) * 2 ^ a := by rw [← Nat.pow_add]; congr 1; omega
    rw [e, ← Nat.mul_assoc] at h
    rw [show a - b = 0 by omega, Nat.pow_zero, Nat.mul_one]
    exact Nat.eq_of_mul_eq_mul_right (Nat.two_pow_pos a) h
  · have e : 2 ^ a = 2 ^ (a - b) * 2 ^ b := by rw [← Nat.pow_add]; congr 1; omega
    rw [e, ← Nat.mul_assoc] at h
    rw [show b - a = 0 by omega, Nat.pow_zero, Nat.mul_one]
    exact Nat.eq_of_mul_eq_mul_right (Nat.two_pow_pos b) h
/-- a quotient that is N / 2^k, written otherwise -/
theorem oRR {s : Bool} {A B N M k : Nat} {e : Int} (hB : 0 < B) (hM : 0 ≤ e + M) (hk : k ≤ M) (h : A * 2 ^ (e + M).toNat = N * B * 2 ^ (M - k)) : roundRatio b64 s A B e = roundRatio b64 s N 1 (-(k : Int)) := by
  refine roundRatio_congr hB (by decide) ?_
  have c := oPowCancel h
  rw [show (e - -(k : Int)).toNat = (e + M).toNat - (M - k) by omega, show (-(k : Int) - e).toNat = (M - k) - (e + M).toNat by omega, Nat.mul_one]
  exact c
theorem oQmax (k : Nat) : -(k : Int) ≤ b64.qmax := by
  have h : b64.qmax = 971 := by decide
  omega
theorem oRX {s : Bool} {N k : Nat} (hN : N < 9007199254740992) (hk : k ≤ 1074) : ∃ c q, roundRatio b64 s N 1 (-(k : Int)) = .fin s c q ∧ inUnits c q b64.qmin = N * 2 ^ (1074 - k) := by
  obtain ⟨c, q, h1, h2⟩ := round_exact good_b64 s (c := N) (q := -(k : Int)) (by show N < 2 ^ 53; omega) (by rw [qmin_b64]; omega) (oQmax k)
  refine ⟨c, q, h1, h2.trans ?_⟩
  unfold inUnits; rw [qmin_b64]; congr 2; omega
theorem oSgn {s : Bool} {N : Nat} {n : Int} {P : Nat} (hP : 0 < P) (h : signed s (N * P) = n * (P : Int)) : signed s N = n := by
  rw [signed_mul] at h
  exact Int.eq_of_mul_eq_mul_right (by omega) h
theorem oAbs {s : Bool} {C N P : Nat} {n : Int} (h : signed s C = n * (P : Int)) (hN : n.natAbs = N) : C = N * P := by
  have := congrArg Int.natAbs h
  rw [natAbs_signed, Int.natAbs_mul, hN, Int.natAbs_natCast] at this
  exact this
/-- what is rounded from n / 2^k is just that -/
theorem oRnd {x : UInt64} {s : Bool} {A B M k : Nat} {e n : Int} (hx : val64 x = roundRatio b64 s A B e) (hB : 0 < B) (hM : 0 ≤ e + M) (hk : k ≤ M) (hk2 : k ≤ 1074) (hn : -9007199254740992 < n ∧ n < 9007199254740992) (h : signed s (A * 2 ^ (e + M).toNat) = n * ((B * 2 ^ (M - k) : Nat) : Int)) : oQ n k x := by
  have hA := oAbs h rfl
  rw [← Nat.mul_assoc] at hA
  rw [oRR hB hM hk hA] at hx
  obtain ⟨c, q, h1, h2⟩ := oRX (s := s) (N := n.natAbs) (k := k) (by omega) hk2
  rw [h1] at hx
  refine ⟨⟨s, c, q, hx⟩, ?_⟩
  rw [hx]
  show signed s (inUnits c q b64.qmin) = _
  rw [h2, signed_mul]
  have : signed s n.natAbs = n := by
    rw [hA, Nat.mul_assoc] at h
    exact oSgn (P := B * 2 ^ (M - k)) (Nat.mul_pos hB (Nat.two_pow_pos _)) h
  rw [this]
theorem oQ.add {n m : Int} {k : Nat} {x y v : UInt64} (hx : oQ n k x) (hy : oQ m k y) (e : v = FP.dadd x y) (hk : k ≤ 1074) (b : -9007199254740992 < n + m ∧ n + m < 9007199254740992) : oQ (n + m) k v := by
  obtain ⟨s, c, q, e1, f1, z1⟩ := hx.fin
  obtain ⟨t, d, r, e2, f2, z2⟩ := hy.fin
  obtain ⟨sg, C, E, h1, h2, h3⟩ := sum_units f1 f2
  have hv : val64 v = roundRatio b64 sg C 1 E := by rw [e]; show val64 (Core.dadd x y) = _; rw [val64_dadd, e1, e2, h1]; rfl
  rw [qmin_b64] at h2
  refine oRnd (M := 1074) hv (by decide) (by omega) hk hk b ?_
  have h4 : signed sg (inUnits C E b64.qmin) = (n + m) * ((2 ^ (1074 - k) : Nat) : Int) := by
    rw [h3]; show signed s (inUnits c q b64.qmin) + signed t (inUnits d r b64.qmin) = _; rw [z1, z2, Int.add_mul]
  rw [Nat.one_mul, ← h4]; unfold inUnits; rw [qmin_b64]; congr 3
theorem oQ.neg {n : Int} {k : Nat} {x : UInt64} (hx : oQ n k x) : ∃ s c q, negate (val64 x) = .fin s c q ∧ Core.fits b64 (Datum.fin s c q) ∧ signed s (inUnits c q b64.qmin) = (-n) * ((2 ^ (1074 - k) : Nat) : Int) := by
  obtain ⟨s, c, q, e1, f1, z1⟩ := hx.fin
  refine ⟨!s, c, q, by rw [e1]; rfl, f1, ?_⟩
  rw [signed_not, z1, Int.neg_mul]
theorem oQ.sub {n m : Int} {k : Nat} {x y v : UInt64} (hx : oQ n k x) (hy : oQ m k y) (e : v = FP.dsub x y) (hk : k ≤ 1074) (b : -9007199254740992 < n - m ∧ n - m < 9007199254740992) : oQ (n - m) k v := by
  obtain ⟨s, c, q, e1, f1, z1⟩ := hx.fin
  obtain ⟨t, d, r, e2, f2, z2⟩ := hy.neg
  obtain ⟨sg, C, E, h1, h2, h3⟩ := sum_units f1 f2
  have hv : val64 v = roundRatio b64 sg C 1 E := by rw [e]; show val64 (Core.dsub x y) = _; rw [val64_dsub, e1, e2, h1]; rfl
  rw [qmin_b64] at h2
  refine oRnd (M := 1074) hv (by decide) (by omega) hk hk b ?_
  have h4 : signed sg (inUnits C E b64.qmin) = (n - m) * ((2 ^ (1074 - k) : Nat) : Int) := by
    rw [h3]; show signed s (inUnits c q b64.qmin) + signed t (inUnits d r b64.qmin) = _; rw [z1, z2, ← Int.add_mul, Int.sub_eq_add_neg]
  rw [Nat.one_mul, ← h4]; unfold inUnits; rw [qmin_b64]; congr 3
theorem oQ.mul {n m : Int} {k j : Nat} {x y v : UInt64} (hx : oQ n k x) (hy : oQ m j y) (e : v = FP.dmul x y) (hk : k + j ≤ 1074) (b : -9007199254740992 < n * m ∧ n * m < 9007199254740992) : oQ (n * m) (k + j) v := by
  obtain ⟨s, c, q, e1, f1, z1⟩ := hx.fin
  obtain ⟨t, d, r, e2, f2, z2⟩ := hy.fin
  obtain ⟨h1, h2, h3⟩ := product_units f1 f2
  have hv : val64 v = roundRatio b64 (s != t) (c * d) 1 (q + r) := by rw [e]; show val64 (Core.dmul x y) = _; rw [val64_dmul, e1, e2, h1]; rfl
  rw [qmin_b64] at h2
  refine oRnd (M := 2148) hv (by decide) (by omega) (by omega) hk b ?_
  have h4 : signed (s != t) (inUnits (c * d) (q + r) (2 * b64.qmin)) = (n * m) * ((2 ^ (2148 - (k + j)) : Nat) : Int) := by
    rw [h3, signed_xor]
    show signed s (inUnits c q b64.qmin) * signed t (inUnits d r b64.qmin) = _
    rw [z1, z2, show 2148 - (k + j) = (1074 - k) + (1074 - j) by omega, Nat.pow_add, Int.natCast_mul]
    simp only [Int.mul_assoc, Int.mul_left_comm, Int.mul_comm]
  rw [Nat.one_mul, ← h4]; unfold inUnits; rw [qmin_b64]; congr 3
theorem oSgnPos {t : Bool} {D : Nat} (h : 0 < signed t D) : t = false := by
  cases t with
  | false => rfl
  | true => simp only [signed, if_true] at h; omega
theorem oSgnNat {s : Bool} {C P : Nat} {n : Int} (hP : 0 < P) (h : signed s C = n * (P : Int)) : signed s n.natAbs = n := by
  have hA := oAbs h rfl
  rw [hA] at h
  exact oSgn hP h
/-- a quotient of two such is the rounded ratio -/
theorem oQ.div {n m : Int} {k j : Nat} {x y v : UInt64} (hx : oQ n k x) (hy : oQ m j y) (e : v = FP.ddiv x y) (hm : 0 < m) (hk : k ≤ 1074) (hj : j ≤ 1074) : ∃ s, val64 v = roundRatio b64 s (n.natAbs * 2 ^ j) (m.natAbs * 2 ^ k) 0 ∧ signed s n.natAbs = n := by
  obtain ⟨s, c, q, e1, f1, z1⟩ := hx.fin
  obtain ⟨t, d, r, e2, f2, z2⟩ := hy.fin
  have q1 : b64.qmin ≤ q := f1.2.1
  have q2 : b64.qmin ≤ r := f2.2.1
  rw [qmin_b64] at q1 q2
  have ht : t = false := oSgnPos (by rw [z2]; exact Int.mul_pos hm (by have := Nat.two_pow_pos (1074 - j); omega))
  have hc := oAbs z1 rfl
  have hd := oAbs z2 rfl
  have hd0 : d ≠ 0 := by
    rintro rfl
    have : 0 < m.natAbs * 2 ^ (1074 - j) := Nat.mul_pos (by omega) (Nat.two_pow_pos _)
    unfold inUnits at hd
    rw [Nat.zero_mul] at hd
    omega
  have hv : val64 v = roundRatio b64 s c d (q - r) := by
    rw [e]; show val64 (Core.ddiv x y) = _
    rw [val64_ddiv, e1, e2, ht]
    show (if d = 0 then _ else roundRatio b64 (s != false) c d (q - r)) = _
    rw [if_neg hd0]; cases s <;> rfl
  refine ⟨s, ?_, oSgnNat (Nat.two_pow_pos _) z1⟩
  rw [hv]
  refine roundRatio_congr (by omega) (Nat.mul_pos (by omega) (Nat.two_pow_pos _)) ?_
  unfold inUnits at hc hd
  rw [qmin_b64] at hc hd
  have key : (c * (m.natAbs * 2 ^ k)) * 2 ^ (q - -1074).toNat = (n.natAbs * 2 ^ j * d) * 2 ^ (r - -1074).toNat := by
    have a1 : c * (m.natAbs * 2 ^ k) * 2 ^ (q - -1074).toNat = (c * 2 ^ (q - -1074).toNat) * (m.natAbs * 2 ^ k) := by
      simp only [Nat.mul_assoc, Nat.mul_left_comm, Nat.mul_comm]
    have a2 : n.natAbs * 2 ^ j * d * 2 ^ (r - -1074).toNat = (d * 2 ^ (r - -1074).toNat) * (n.natAbs * 2 ^ j) := by
      simp only [Nat.mul_assoc, Nat.mul_left_comm, Nat.mul_comm]
    rw [a1, a2, hc, hd]
    have a3 : 2 ^ (1074 - k) * 2 ^ k = 2 ^ (1074 - j) * 2 ^ j := by
      rw [← Nat.pow_add, ← Nat.pow_add]; congr 1; omega
    calc n.natAbs * 2 ^ (1074 - k) * (m.natAbs * 2 ^ k) = (n.natAbs * m.natAbs) * (2 ^ (1074 - k) * 2 ^ k) := Nat.mul_mul_mul_comm _ _ _ _
      _ = (m.natAbs * n.natAbs) * (2 ^ (1074 - j) * 2 ^ j) := by rw [a3, Nat.mul_comm n.natAbs]
      _ = m.natAbs * 2 ^ (1074 - j) * (n.natAbs * 2 ^ j) := (Nat.mul_mul_mul_comm _ _ _ _).symm
  have c := oPowCancel key
  rw [show (q - r - 0).toNat = (q - -1074).toNat - (r - -1074).toNat by omega, show (0 - (q - r)).toNat = (r - -1074).toNat - (q - -1074).toNat by omega]
  exact c
/-- a quotient that is r / 2^i -/
theorem oQ.divx {n m : Int} {k j : Nat} {x y v : UInt64} (hx : oQ n k x) (hy : oQ m j y) (e : v = FP.ddiv x y) (r : Int) (i : Nat) (hm : 0 < m) (hk : k ≤ 1074) (hj : j ≤ 1074) (hi : i ≤ 1074) (b : -9007199254740992 < r ∧ r < 9007199254740992) (h : n * ((2 ^ j : Nat) : Int) * ((2 ^ i : Nat) : Int) = r * (m * ((2 ^ k : Nat) : Int))) : oQ r i v := by
  obtain ⟨s, hv, hs⟩ := hx.div hy e hm hk hj
  refine oRnd (M := i) hv (Nat.mul_pos (by omega) (Nat.two_pow_pos _)) (by omega) (Nat.le_refl _) hi b ?_
  rw [show ((0 : Int) + (i : Int)).toNat = i by omega, Nat.sub_self, Nat.pow_zero, Nat.mul_one, signed_mul, signed_mul, hs, h, Int.natCast_mul, Int.natAbs_of_nonneg (by omega)]
/-- two quotients of the same value -/
theorem oQ.diveq {n m n' m' : Int} {k j k' j' : Nat} {x y v x' y' v' : UInt64} (hx : oQ n k x) (hy : oQ m j y) (e : v = FP.ddiv x y) (hx' : oQ n' k' x') (hy' : oQ m' j' y') (e' : v' = FP.ddiv x' y') (hn : 0 < n) (hn' : 0 < n') (hm : 0 < m) (hm' : 0 < m') (hk : k ≤ 1074) (hj : j ≤ 1074) (hk2 : k' ≤ 1074) (hj2 : j' ≤ 1074)
    (h : n * ((2 ^ j : Nat) : Int) * (m' * ((2 ^ k' : Nat) : Int)) = n' * ((2 ^ j' : Nat) : Int) * (m * ((2 ^ k : Nat) : Int))) : v = v' := by
  obtain ⟨s, hv, hs⟩ := hx.div hy e hm hk hj
  obtain ⟨s', hv', hs'⟩ := hx'.div hy' e' hm' hk2 hj2
  have s0 : s = false := oSgnPos (by rw [hs]; exact hn)
  have s1 : s' = false := oSgnPos (by rw [hs']; exact hn')
  have ev : val64 v = val64 v' := by
    rw [hv, hv', s0, s1]
    refine roundRatio_congr (Nat.mul_pos (by omega) (Nat.two_pow_pos _)) (Nat.mul_pos (by omega) (Nat.two_pow_pos _)) ?_
    show _ * 2 ^ 0 = _ * 2 ^ 0
    rw [Nat.pow_zero, Nat.mul_one, Nat.mul_one]
    have := congrArg Int.natAbs h
    simp only [Int.natAbs_mul, Int.natAbs_natCast] at this
    exact this
  have nn : val64 v ≠ .nan := by rw [hv]; exact roundRatio_ne_nan _ _ _ _ _
  exact val64_inj nn ev
/-- the same value, written finer -/
theorem oQ.up {n N : Int} {k k' : Nat} {x : UInt64} (h : oQ n k x) (j : Nat) (hk : k + j = k') (hk2 : k' ≤ 1074) (hN : n * ((2 ^ j : Nat) : Int) = N) : oQ N k' x := by
  refine ⟨h.1, h.2.trans ?_⟩
  rw [← hN, Int.mul_assoc, ← Int.natCast_mul, ← Nat.pow_add, show j + (1074 - k') = 1074 - k by omega]
theorem oQ.cast {n N : Int} {k k' : Nat} {x : UInt64} (h : oQ n k x) (hk : k = k') (hN : n = N) : oQ N k' x := by subst hk hN; exact h
theorem oQ.divnn {n m : Int} {k j : Nat} {x y v : UInt64} (hx : oQ n k x) (hy : oQ m j y) (e : v = FP.ddiv x y) (hm : 0 < m) (hk : k ≤ 1074) (hj : j ≤ 1074) : Jvm.Free.Fl.NoNaN64 v := by
  obtain ⟨s, hv, -⟩ := hx.div hy e hm hk hj
  exact Jvm.Free.Fl.val64_no.mpr (by rw [hv]; exact roundRatio_ne_nan _ _ _ _ _)
/-- two quotients of the same value, compared -/
theorem oQ.divcmp {n m n' m' : Int} {k j k' j' : Nat} {x y v x' y' v' : UInt64} {o : CmpOp} {r : Int32} (hx : oQ n k x) (hy : oQ m j y) (e : v = FP.ddiv x y) (hx' : oQ n' k' x') (hy' : oQ m' j' y') (e' : v' = FP.ddiv x' y') (er : r = cmpValue (FP.dcmp v v') o) (hm : 0 < m) (hm' : 0 < m') (hk : k ≤ 1074) (hj : j ≤ 1074) (hk2 : k' ≤ 1074) (hj2 : j' ≤ 1074)
    (h : n * ((2 ^ j : Nat) : Int) * (m' * ((2 ^ k' : Nat) : Int)) = n' * ((2 ^ j' : Nat) : Int) * (m * ((2 ^ k : Nat) : Int))) : r = 0 := by
  have P (a : Nat) : (0 : Int) < ((2 ^ a : Nat) : Int) := by have := Nat.two_pow_pos a; omega
  obtain ⟨s, hv, hs⟩ := hx.div hy e hm hk hj
  obtain ⟨s', hv', hs'⟩ := hx'.div hy' e' hm' hk2 hj2
  have nn : val64 v ≠ .nan := by rw [hv]; exact roundRatio_ne_nan _ _ _ _ _
  have nn' : val64 v' ≠ .nan := by rw [hv']; exact roundRatio_ne_nan _ _ _ _ _
  have pos {a b c : Int} (ha : 0 < a) (hb : 0 < b) (hc : 0 < c) : 0 < a * (b * c) := Int.mul_pos ha (Int.mul_pos hb hc)
  by_cases ss : s = s'
  · have ev : val64 v = val64 v' := by
      rw [hv, hv', ss]
      refine roundRatio_congr (Nat.mul_pos (by omega) (Nat.two_pow_pos _)) (Nat.mul_pos (by omega) (Nat.two_pow_pos _)) ?_
      show _ * 2 ^ 0 = _ * 2 ^ 0
      rw [Nat.pow_zero, Nat.mul_one, Nat.mul_one]
      have := congrArg Int.natAbs h
      simp only [Int.natAbs_mul, Int.natAbs_natCast] at this
      exact this
    exact oSame er (val64_inj nn ev) (Jvm.Free.Fl.val64_no.mpr nn)
  · have z0 : n = 0 := by
      rw [Int.mul_assoc, Int.mul_assoc] at h
      have p1 := pos (P j) hm' (P k')
      have p2 := pos (P j') hm (P k)
      generalize ((2 ^ j : Nat) : Int) * (m' * ((2 ^ k' : Nat) : Int)) = a at h p1
      generalize ((2 ^ j' : Nat) : Int) * (m * ((2 ^ k : Nat) : Int)) = b at h p2
      rcases Int.lt_trichotomy n 0 with q | q | q
      · have h1 : n * a < 0 := Int.mul_neg_of_neg_of_pos q p1
        have h2 : n' < 0 := Int.not_le.mp fun w => by have := Int.mul_nonneg w (Int.le_of_lt p2); omega
        exfalso; cases s <;> cases s' <;> simp only [signed, if_true, Bool.false_eq_true, if_false, not_true_eq_false] at hs hs' ss <;> omega
      · exact q
      · have h1 : 0 < n * a := Int.mul_pos q p1
        have h2 : 0 < n' := Int.not_le.mp fun w => by have := Int.mul_nonneg (show 0 ≤ -n' by omega) (Int.le_of_lt p2); rw [Int.neg_mul] at this; omega
        exfalso; cases s <;> cases s' <;> simp only [signed, if_true, Bool.false_eq_true, if_false, not_true_eq_false] at hs hs' ss <;> omega
    have z1 : n' = 0 := by
      rw [z0, Int.zero_mul, Int.zero_mul, Int.mul_assoc] at h
      rcases Int.mul_eq_zero.mp h.symm with q | q
      · exact q
      · have := pos (P j') hm (P k); omega
    have q1 : oQ 0 0 v := hx.divx hy e 0 0 hm hk hj (by omega) (by omega) (by rw [z0]; simp)
    have q2 : oQ 0 0 v' := hx'.divx hy' e' 0 0 hm' hk2 hj2 (by omega) (by omega) (by rw [z1]; simp)
    exact (oCmpZ q1.zv q2.zv er).2.1.mpr rfl
theorem oQ1 : oQ 4 2 4607182418800017408 := (oQ.int (oDK 1 (by decide +kernel) (by decide))).up 2 rfl (by decide) rfl
theorem oQ.fin64 {n : Int} {k : Nat} {x : UInt64} (h : oQ n k x) : Jvm.Free.Fl.Fin64 x := Jvm.Free.Fl.fin64_core.mpr h.1
theorem oQ0 (k : Nat) : oQ 0 k 0 := ⟨(oQ.int (oDK 0 (by decide +kernel) (by decide))).1, by rw [(oQ.int (oDK 0 (by decide +kernel) (by decide) : DInt 0 0)).2]; simp⟩
/-- compared at the same fineness -/
theorem oQ.cmp {n m : Int} {k : Nat} {x y : UInt64} {o : CmpOp} {v : Int32} (hx : oQ n k x) (hy : oQ m k y) (h : v = cmpValue (FP.dcmp x y) o) : (v < 0 ↔ n < m) ∧ (v = 0 ↔ n = m) ∧ (0 < v ↔ m < n) := by
  have P : (0 : Int) < ((2 ^ (1074 - k) : Nat) : Int) := by have := Nat.two_pow_pos (1074 - k); omega
  have r := oCmpZ hx.zv hy.zv h
  generalize ((2 ^ (1074 - k) : Nat) : Int) = a at P r
  have L (i j : Int) : i * a < j * a ↔ i < j := Int.mul_lt_mul_right P
  have E (i j : Int) : i * a = j * a ↔ i = j := ⟨fun q => Int.eq_of_mul_eq_mul_right (by omega) q, fun q => by rw [q]⟩
  rw [L, E, L] at r
  exact r
/-! bounds: rounding is monotone. All at the finest scale: oQ z 1074 -/
theorem oQ.fine {n : Int} {k : Nat} {x : UInt64} (h : oQ n k x) (hk : k ≤ 1074) : oQ (n * ((2 ^ (1074 - k) : Nat) : Int)) 1074 x := h.up (1074 - k) (by omega) (Nat.le_refl _) rfl
theorem oQ.z {z : Int} {x : UInt64} (h : oQ z 1074 x) : zval b64 (val64 x) = z := by
  rw [h.2, Nat.sub_self, Nat.pow_zero]; omega
theorem oQ.of_z {z : Int} {x : UInt64} (h : DFin x) (e : zval b64 (val64 x) = z) : oQ z 1074 x := ⟨h, by rw [e, Nat.sub_self, Nat.pow_zero]; omega⟩
theorem oFinLe {v w : UInt64} (hn : val64 v ≠ .nan) (h0 : 0 ≤ zval b64 (val64 v)) (hw : DFin w) (h : zval b64 (val64 v) ≤ zval b64 (val64 w)) : DFin v := by
  obtain ⟨t, d, r, e⟩ := hw
  have f := val64_fits w
  rw [e] at f h
  have lt : zmag b64 (Datum.fin t d r) < b64.tails * 2 ^ (b64.exps - 2) := zmag_lt_top good_b64 f
  cases ev : val64 v with
  | nan => exact absurd ev hn
  | fin s c q => exact ⟨s, c, q, ev⟩
  | inf s =>
    rw [ev] at h h0
    exfalso
    have hz : zval b64 (Datum.fin t d r) = signed t (zmag b64 (Datum.fin t d r)) := rfl
    have hi : zval b64 (Datum.inf s) = signed s (b64.tails * 2 ^ (b64.exps - 2)) := rfl
    rw [hz, hi] at h
    rw [hi] at h0
    generalize zmag b64 (Datum.fin t d r) = a at *
    generalize b64.tails * 2 ^ (b64.exps - 2) = b at *
    cases s <;> cases t <;> simp only [signed, if_true, Bool.false_eq_true, if_false] at h h0 <;> omega
theorem oQ.addB {a b c d : Int} {x y v lo hi : UInt64} (hx : oQ a 1074 x) (hy : oQ b 1074 y) (e : v = FP.dadd x y) (hlo : oQ c 1074 lo) (hhi : oQ d 1074 hi) (h0 : 0 ≤ c) (h1 : c ≤ a + b) (h2 : a + b ≤ d) : ∃ z, oQ z 1074 v ∧ c ≤ z ∧ z ≤ d := by
  obtain ⟨s, c1, q, e1, f1, z1⟩ := hx.fin
  obtain ⟨t, d1, r, e2, f2, z2⟩ := hy.fin
  obtain ⟨sg, C, E, h3, h4, h5⟩ := sum_units f1 f2
  rw [Nat.sub_self, Nat.pow_zero] at z1 z2
  have hv : val64 v = Core.round b64 (.fin sg C E) := by rw [e]; show val64 (Core.dadd x y) = _; rw [val64_dadd, e1, e2, h3]
  have h6 : signed sg (inUnits C E b64.qmin) = a + b := by
    rw [h5]; show signed s (inUnits c1 q b64.qmin) + signed t (inUnits d1 r b64.qmin) = _; rw [z1, z2]; omega
  have up := zval_round_le good_b64 (s := sg) (c := C) (q := E) (e0 := b64.qmin) (val64_fits hi) hhi.1.ne_nan (Int.le_refl _) h4 (by rw [h6, Int.sub_self]; show _ ≤ _ * 1; rw [hhi.z]; omega)
  have dn := zval_round_ge good_b64 (s := sg) (c := C) (q := E) (e0 := b64.qmin) (val64_fits lo) hlo.1.ne_nan (Int.le_refl _) h4 (by rw [h6, Int.sub_self]; show _ * 1 ≤ _; rw [hlo.z]; omega)
  rw [← hv] at up dn
  have nn : val64 v ≠ .nan := by rw [hv]; exact fun q => Datum.noConfusion (round_nan.mp q)
  have hF : DFin v := oFinLe nn (by rw [hlo.z] at dn; omega) hhi.1 up
  rw [hlo.z] at dn
  rw [hhi.z] at up
  exact ⟨_, oQ.of_z hF rfl, dn, up⟩
theorem oQ.divB {a b c d : Int} {x y v lo hi : UInt64} (hx : oQ a 1074 x) (hy : oQ b 1074 y) (e : v = FP.ddiv x y) (hlo : oQ c 1074 lo) (hhi : oQ d 1074 hi) (h0 : 0 ≤ c) (ha : 0 ≤ a) (hb : 0 < b) (h1 : c * b ≤ a * ((2 ^ 1074 : Nat) : Int)) (h2 : a * ((2 ^ 1074 : Nat) : Int) ≤ d * b) : ∃ z, oQ z 1074 v ∧ c ≤ z ∧ z ≤ d := by
  obtain ⟨s, hv, hs⟩ := hx.div hy e hb (Nat.le_refl _) (Nat.le_refl _)
  have P : 0 < 2 ^ 1074 := Nat.two_pow_pos 1074
  rcases Int.lt_or_eq_of_le ha with pa | pa
  · have s0 : s = false := oSgnPos (by rw [hs]; exact pa)
    subst s0
    have hd : 0 ≤ d := Int.not_lt.mp fun w => by
      have := Int.mul_neg_of_neg_of_pos w hb
      have := Int.mul_nonneg ha (Int.natCast_nonneg (2 ^ 1074)); omega
    have zlo : zmag b64 (val64 lo) = c.natAbs := by
      have := congrArg Int.natAbs hlo.z
      unfold zval at this; rw [natAbs_signed] at this; exact this
    have zhi : zmag b64 (val64 hi) = d.natAbs := by
      have := congrArg Int.natAbs hhi.z
      unfold zval at this; rw [natAbs_signed] at this; exact this
    have B0 : 0 < b.natAbs * 2 ^ 1074 := Nat.mul_pos (by omega) P
    have i0 : ∀ A : Nat, inUnits A 0 b64.qmin = A * 2 ^ 1074 := fun A => by unfold inUnits; rw [qmin_b64]; rfl
    have k1 : c.natAbs * b.natAbs ≤ a.natAbs * 2 ^ 1074 := by
      have : ((c.natAbs * b.natAbs : Nat) : Int) ≤ ((a.natAbs * 2 ^ 1074 : Nat) : Int) := by
        rw [Int.natCast_mul, Int.natCast_mul, Int.natAbs_of_nonneg h0, Int.natAbs_of_nonneg ha, Int.natAbs_of_nonneg (Int.le_of_lt hb)]; exact h1
      exact Int.ofNat_le.mp this
    have k2 : a.natAbs * 2 ^ 1074 ≤ d.natAbs * b.natAbs := by
      have : ((a.natAbs * 2 ^ 1074 : Nat) : Int) ≤ ((d.natAbs * b.natAbs : Nat) : Int) := by
        rw [Int.natCast_mul, Int.natCast_mul, Int.natAbs_of_nonneg hd, Int.natAbs_of_nonneg ha, Int.natAbs_of_nonneg (Int.le_of_lt hb)]; exact h2
      exact Int.ofNat_le.mp this
    have up := zmag_roundRatio_le good_b64 (s := false) (A := a.natAbs * 2 ^ 1074) (e := 0) (e0 := b64.qmin) B0 (val64_fits hi) hhi.1.ne_nan (Int.le_refl _) (by rw [qmin_b64]; decide) (by rw [i0, zhi, Int.sub_self]; show _ ≤ _ * 1 * _; rw [Nat.mul_one, ← Nat.mul_assoc]; exact Nat.mul_le_mul_right _ k2)
    have dn := zmag_roundRatio_ge good_b64 (s := false) (A := a.natAbs * 2 ^ 1074) (e := 0) (e0 := b64.qmin) B0 (val64_fits lo) (Int.le_refl _) (by rw [qmin_b64]; decide) (by rw [i0, zlo, Int.sub_self]; show _ * 1 * _ ≤ _; rw [Nat.mul_one, ← Nat.mul_assoc]; exact Nat.mul_le_mul_right _ k1)
    rw [← hv] at up dn
    rw [zhi] at up
    rw [zlo] at dn
    have nn : val64 v ≠ .nan := by rw [hv]; exact roundRatio_ne_nan _ _ _ _ _
    have zv : zval b64 (val64 v) = (zmag b64 (val64 v) : Int) := by
      unfold zval; rw [hv, sgn_roundRatio]; rfl
    have hF : DFin v := oFinLe nn (by rw [zv]; omega) hhi.1 (by rw [zv, hhi.z]; omega)
    exact ⟨_, oQ.of_z hF rfl, by rw [zv]; omega, by rw [zv]; omega⟩
  · subst pa
    have q0 : oQ 0 1074 v := hx.divx hy e 0 1074 hb (Nat.le_refl _) (Nat.le_refl _) (Nat.le_refl _) (by omega) (by simp)
    refine ⟨0, q0, ?_, ?_⟩
    · rw [Int.zero_mul] at h1
      exact Int.not_lt.mp fun w => by have := Int.mul_pos w hb; omega
    · rw [Int.zero_mul] at h2
      exact Int.not_lt.mp fun w => by have := Int.mul_neg_of_neg_of_pos w hb; omega
/-- one bound alone, of a sum that is finite -/
theorem oQ.addLo {a b c : Int} {x y v lo : UInt64} (hx : oQ a 1074 x) (hy : oQ b 1074 y) (e : v = FP.dadd x y) (hF : DFin v) (hlo : oQ c 1074 lo) (h1 : c ≤ a + b) : ∃ z, oQ z 1074 v ∧ c ≤ z := by
  obtain ⟨s, c1, q, e1, f1, z1⟩ := hx.fin
  obtain ⟨t, d1, r, e2, f2, z2⟩ := hy.fin
  obtain ⟨sg, C, E, h3, h4, h5⟩ := sum_units f1 f2
  rw [Nat.sub_self, Nat.pow_zero] at z1 z2
  have hv : val64 v = Core.round b64 (.fin sg C E) := by rw [e]; show val64 (Core.dadd x y) = _; rw [val64_dadd, e1, e2, h3]
  have h6 : signed sg (inUnits C E b64.qmin) = a + b := by
    rw [h5]; show signed s (inUnits c1 q b64.qmin) + signed t (inUnits d1 r b64.qmin) = _; rw [z1, z2]; omega
  have dn := zval_round_ge good_b64 (s := sg) (c := C) (q := E) (e0 := b64.qmin) (val64_fits lo) hlo.1.ne_nan (Int.le_refl _) h4 (by rw [h6, Int.sub_self]; show _ * 1 ≤ _; rw [hlo.z]; omega)
  rw [← hv] at dn
  rw [hlo.z] at dn
  exact ⟨_, oQ.of_z hF rfl, dn⟩
/-- a number over infinity is nought -/
theorem oQ.divinf {n : Int} {k : Nat} {x v : UInt64} (hx : oQ n k x) (e : v = FP.ddiv x 9218868437227405312) : oQ 0 0 v := by
  obtain ⟨s, c, q, e1, f1, z1⟩ := hx.fin
  have hi : val64 9218868437227405312 = .inf false := by decide +kernel
  have hv : val64 v = .fin (s != false) 0 b64.qmin := by rw [e]; show val64 (Core.ddiv x _) = _; rw [val64_ddiv, e1, hi]; rfl
  refine ⟨⟨_, _, _, hv⟩, ?_⟩
  rw [hv]; show signed (s != false) (inUnits 0 b64.qmin b64.qmin) = _
  unfold inUnits; rw [Nat.zero_mul, Int.zero_mul]; cases s <;> rfl
/-- times a power of two: exact, however great -/
theorem oQ.mulpow {n m : Int} {j : Nat} {x y v : UInt64} (hx : oQ n 0 x) (hy : oQ m 0 y) (e : v = FP.dmul x y) (hm : ((2 ^ j : Nat) : Int) = m) (hj : j ≤ 900) (b : -9007199254740992 < n ∧ n < 9007199254740992) : oQ (n * m) 0 v := by
  obtain ⟨s, c, q, e1, f1, z1⟩ := hx.fin
  obtain ⟨t, d, r, e2, f2, z2⟩ := hy.fin
  obtain ⟨h1, h2, h3⟩ := product_units f1 f2
  have hv : val64 v = roundRatio b64 (s != t) (c * d) 1 (q + r) := by rw [e]; show val64 (Core.dmul x y) = _; rw [val64_dmul, e1, e2, h1]; rfl
  have P := Nat.two_pow_pos (1074 - 0)
  have ht : t = false := oSgnPos (by rw [z2, ← hm]; have := Nat.two_pow_pos j; exact Int.mul_pos (by omega) (by omega))
  have hc := oAbs z1 rfl
  have hd := oAbs z2 rfl
  rw [qmin_b64] at h2 h3
  have hms : m.natAbs = 2 ^ j := by rw [← hm, Int.natAbs_natCast]
  have hr : val64 v = Core.round b64 (.fin s n.natAbs (j : Int)) := by
    rw [hv, ht]
    show roundRatio b64 (s != false) _ _ _ = roundRatio b64 s n.natAbs 1 (j : Int)
    rw [show (s != false) = s by cases s <;> rfl]
    refine roundRatio_congr (by decide) (by decide) ?_
    have key : c * d * 2 ^ (q + r - 2 * (-1074)).toNat = n.natAbs * 2 ^ (j + 2148) := by
      have h3' : inUnits (c * d) (q + r) (2 * (-1074)) = inUnits c q b64.qmin * inUnits d r b64.qmin := h3
      rw [hc, hd, hms] at h3'
      unfold inUnits at h3'
      rw [h3', Nat.pow_add, show 2148 = (1074 - 0) + (1074 - 0) by rfl, Nat.pow_add]
      simp only [Nat.mul_assoc, Nat.mul_left_comm, Nat.mul_comm]
    have c2 := oPowCancel key
    rw [show (q + r - (j : Int)).toNat = (q + r - 2 * (-1074)).toNat - (j + 2148) by omega, show ((j : Int) - (q + r)).toNat = (j + 2148) - (q + r - 2 * (-1074)).toNat by omega, Nat.mul_one, Nat.mul_one]
    exact c2
  obtain ⟨c', q', g1, g2⟩ := round_exact good_b64 s (c := n.natAbs) (q := (j : Int)) (by show n.natAbs < 2 ^ 53; omega) (by rw [qmin_b64]; omega) (by rw [show b64.qmax = 971 by decide]; omega)
  rw [g1] at hr
  refine ⟨⟨_, _, _, hr⟩, ?_⟩
  rw [hr]; show signed s (inUnits c' q' b64.qmin) = _
  have sn := oSgnNat P z1
  rw [g2]; unfold inUnits
  rw [qmin_b64, signed_mul, sn, show ((j : Int) - -1074).toNat = j + (1074 - 0) by omega, Nat.pow_add, Int.natCast_mul, hm, Int.mul_assoc]
/-! whole numbers -/
theorem oMB {a b A B : Int} (ha : 0 ≤ a ∧ a ≤ A) (hb : 0 ≤ b ∧ b ≤ B) : 0 ≤ a * b ∧ a * b ≤ A * B := ⟨Int.mul_nonneg ha.1 hb.1, Int.mul_le_mul ha.2 hb.2 hb.1 (by omega)⟩
theorem oMBs {a b A B : Int} (ha : -A ≤ a ∧ a ≤ A) (hb : 0 ≤ b ∧ b ≤ B) : -(A * B) ≤ a * b ∧ a * b ≤ A * B := by
  have h1 : a * b ≤ A * B := Int.le_trans (Int.mul_le_mul_of_nonneg_right ha.2 hb.1) (Int.mul_le_mul_of_nonneg_left hb.2 (by omega))
  have h2 : -a * b ≤ A * B := Int.le_trans (Int.mul_le_mul_of_nonneg_right (show -a ≤ A by omega) hb.1) (Int.mul_le_mul_of_nonneg_left hb.2 (by omega))
  rw [Int.neg_mul] at h2
  omega
theorem oUshr1 {x v : Int32} (e : v = XT.ushr x 1) : 0 ≤ v.toInt ∧ v.toInt ≤ 2147483647 := by
  have h := c_iushr x 1 1 (by decide) (by decide)
  rw [e]; unfold XT.ushr; rw [h]; omega
theorem oLandMax {x v : Int64} (e : v = x &&& 9223372036854775807) : 0 ≤ v.toInt := by
  have h : v.toBitVec.msb = false := by
    rw [e, Int64.toBitVec_and, BitVec.msb_and]
    rw [show (9223372036854775807 : Int64).toBitVec.msb = false by decide, Bool.and_false]
  rw [← Int64.toInt_toBitVec, BitVec.toInt_eq_toNat_of_msb h]
  exact Int.natCast_nonneg _
theorem oShr21 {x v : Int32} (e : v = x >>> ((21 : Int32) &&& 31)) : -1024 ≤ v.toInt ∧ v.toInt ≤ 1023 := by
  have h := c_ishr x 21 21 (by decide)
  have b := oB32 x
  rw [e, h]; omega
theorem oShlI {z v : Int32} {E : Nat} (hz : z.toInt = (E : Int)) (hE : E ≤ 20) (e : v = (1 : Int32) <<< (z &&& 31)) : v.toInt = ((2 ^ E : Nat) : Int) := by
  have h : z = Int32.ofNat E := oEq32.mpr (by rw [hz, Int32.toInt_ofNat_of_lt (by omega)])
  have D : ∀ E : Fin 21, ((1 : Int32) <<< ((Int32.ofNat E.val) &&& 31)).toInt = ((2 ^ E.val : Nat) : Int) := by decide
  rw [e, h]; exact D ⟨E, by omega⟩
theorem oShlL {z : Int32} {v : Int64} {E : Nat} (hz : z.toInt = (E : Int)) (hE : E ≤ 40) (e : v = (1 : Int64) <<< (z.toInt64 &&& 63)) : v.toInt = ((2 ^ E : Nat) : Int) := by
  have h : z = Int32.ofNat E := oEq32.mpr (by rw [hz, Int32.toInt_ofNat_of_lt (by omega)])
  have D : ∀ E : Fin 41, ((1 : Int64) <<< ((Int32.ofNat E.val).toInt64 &&& 63)).toInt = ((2 ^ E.val : Nat) : Int) := by decide
  rw [e, h]; exact D ⟨E, by omega⟩
/-- a local that is not read any more: nothing or one word -/
def oDead (s : Slot) : Prop := s = .unset ∨ ∃ z : Int32, s = .val (.int z)
theorem oStoreDead {l l' : Array Slot} {i : Nat} {v : Value} {s : Slot} (h : l[i]? = some s) (hd : oDead s) (hs : storeSelf l i v = some l') : storeLocals l i v = some l' := by
  unfold storeLocals
  rcases hd with rfl | ⟨z, rfl⟩ <;> rw [h] <;> exact hs
end Dy
section Kn
open Jvm.FP Jvm.FP.Core
theorem oNe0 {y : Int32} (h : 0 < y.toInt) : y ≠ 0 := by rintro rfl; exact absurd h (by decide)
theorem oIdxN {j : Int32} {n : Nat} (h : j.toInt = (n : Int)) : j = Int32.ofNat n := oEq32.mpr (by rw [Int32.toInt_ofNat_of_lt (by have := oB32 j; omega)]; exact h)
theorem oIdx {j : Int32} (h : 0 ≤ j.toInt) : j = Int32.ofNat j.toInt.toNat := oIdxN (by omega)
theorem oL2I {x : Int64} {v : Int32} (e : v = x.toInt32) (h : -2147483648 ≤ x.toInt ∧ x.toInt ≤ 2147483647) : v.toInt = x.toInt := by
  rw [e, Int64.toInt_toInt32]; exact Int.bmod_eq_of_le (by omega) (by omega)
theorem oNatI {j : Int32} {n : Nat} (e : j = Int32.ofNat n) (h : n < 2147483648) : j.toInt = (n : Int) := by rw [e]; exact Int32.toInt_ofNat_of_lt (by omega)
theorem oRemB {u v y : Int32} (h : v = u % y) (hy : 0 < y.toInt) (hu : 0 ≤ u.toInt) : 0 ≤ v.toInt ∧ v.toInt < y.toInt := by
  rw [oRem _ h rfl hu]; exact ⟨Int.emod_nonneg _ (by omega), Int.emod_lt_of_pos _ hy⟩
theorem oInc1 {x v : Int32} (e : v = x + Int32.ofInt 1) (h : x.toInt ≤ 1000000) : v.toInt = x.toInt + 1 := by
  have h1 : (Int32.ofInt 1).toInt = 1 := by decide
  have b := oB32 x
  have := oIadd e (by omega)
  omega
def oDead2 (s t : Slot) : Prop := (s = .unset ∧ t = .unset) ∨ ∃ x, s = .val (.double x) ∧ t = .second
theorem oQone (κ : Nat) (h : κ ≤ 1074) : oQ ((2 ^ κ : Nat) : Int) κ 4607182418800017408 := (oQ.int (oDK 1 (by decide +kernel) (by decide))).up κ (Nat.zero_add κ) h (Int.one_mul _)
/-- the weights, in units of 1 / 2^κ -/
def oG : Bool → Nat → Nat → Int
  | true, S, n => if n ≤ S then (S : Int) - n else 0
  | false, S, n => if n ≤ S then 1 else 0
theorem oG_out {t : Bool} {S n : Nat} (h : S < n) : oG t S n = 0 := by cases t <;> exact if_neg (by omega)
theorem oG_in2 {S n : Nat} (h : n ≤ S) : oG true S n = (S : Int) - n := if_pos h
theorem oG_in5 {S n : Nat} (h : n ≤ S) : oG false S n = 1 := if_pos h
theorem oG_b {t : Bool} {S : Nat} (h : S ≤ 16) (n : Nat) : 0 ≤ oG t S n ∧ oG t S n ≤ 16 := by
  rcases Nat.lt_or_ge S n with q | q
  · rw [oG_out q]; omega
  · cases t
    · rw [oG_in5 q]; omega
    · rw [oG_in2 q]; omega
def oPre (G : Nat → Int) : Nat → Int
  | 0 => 0
  | n + 1 => oPre G n + G n
theorem oPre_b {G : Nat → Int} (h : ∀ n, 0 ≤ G n ∧ G n ≤ 16) (n : Nat) : 0 ≤ oPre G n ∧ oPre G n ≤ 16 * n := by
  induction n with
  | zero => show (0 : Int) ≤ 0 ∧ (0 : Int) ≤ 16 * 0; omega
  | succ n ih => have := h n; show 0 ≤ oPre G n + G n ∧ oPre G n + G n ≤ _; omega
def oTl : Bool → Nat → Nat → Int
  | false, S, n => ((min n S : Nat) : Int)
  | true, S, n => (2 * (S : Int) * ((min n S : Nat) : Int) - ((min n S : Nat) : Int) * (((min n S : Nat) : Int) + 1)) / 2
theorem oPre5F : ∀ S : Fin 17, ∀ n : Fin 16, 1 ≤ S.val → oPre (oG false S.val) (n.val + 1) = 1 + oTl false S.val n.val := by decide +kernel
theorem oPre2F : ∀ k : Fin 4, ∀ n : Fin 16, oPre (oG true (2 ^ k.val)) (n.val + 1) = ((2 ^ k.val : Nat) : Int) + oTl true (2 ^ k.val) n.val := by decide +kernel
theorem oFin5 {S a b : Nat} (hS : 1 ≤ S ∧ S ≤ 16) (ha : a ≤ 15) (hb : b ≤ 15) : oPre (oG false S) (a + 1) + oPre (oG false S) (b + 1) - oPre (oG false S) (0 + 1) = ((2 ^ 0 : Nat) : Int) + oTl false S a + oTl false S b := by
  have h1 : oPre (oG false S) (a + 1) = 1 + oTl false S a := oPre5F ⟨S, by omega⟩ ⟨a, by omega⟩ hS.1
  have h2 : oPre (oG false S) (b + 1) = 1 + oTl false S b := oPre5F ⟨S, by omega⟩ ⟨b, by omega⟩ hS.1
  have h3 : oPre (oG false S) (0 + 1) = 1 + oTl false S 0 := oPre5F ⟨S, by omega⟩ ⟨0, by omega⟩ hS.1
  have h4 : oTl false S 0 = 0 := by show ((min 0 S : Nat) : Int) = 0; omega
  rw [h1, h2, h3, h4]; omega
theorem oT0F : ∀ k : Fin 4, oTl true (2 ^ k.val) 0 = 0 := by decide +kernel
theorem oFin2 {k a b : Nat} (hk : k ≤ 3) (ha : a ≤ 15) (hb : b ≤ 15) : oPre (oG true (2 ^ k)) (a + 1) + oPre (oG true (2 ^ k)) (b + 1) - oPre (oG true (2 ^ k)) (0 + 1) = ((2 ^ k : Nat) : Int) + oTl true (2 ^ k) a + oTl true (2 ^ k) b := by
  have h1 : oPre (oG true (2 ^ k)) (a + 1) = ((2 ^ k : Nat) : Int) + oTl true (2 ^ k) a := oPre2F ⟨k, by omega⟩ ⟨a, by omega⟩
  have h2 : oPre (oG true (2 ^ k)) (b + 1) = ((2 ^ k : Nat) : Int) + oTl true (2 ^ k) b := oPre2F ⟨k, by omega⟩ ⟨b, by omega⟩
  have h3 : oPre (oG true (2 ^ k)) (0 + 1) = ((2 ^ k : Nat) : Int) + oTl true (2 ^ k) 0 := oPre2F ⟨k, by omega⟩ ⟨0, by omega⟩
  have h4 : oTl true (2 ^ k) 0 = 0 := oT0F ⟨k, by omega⟩
  rw [h1, h2, h3, h4]; omega
theorem oTNF : ∀ k : Fin 4, ∀ m : Fin 9, ((2 : Int32) * Int32.ofNat (2 ^ k.val) * Int32.ofNat m.val - Int32.ofNat m.val * (Int32.ofNat m.val + 1)).toInt = 2 * ((2 ^ k.val : Nat) : Int) * (m.val : Int) - (m.val : Int) * ((m.val : Int) + 1) := by decide +kernel
theorem oTDF : ∀ k : Fin 4, ((2 : Int32) * Int32.ofNat (2 ^ k.val)).toInt = 2 * ((2 ^ k.val : Nat) : Int) := by decide +kernel
theorem oTXF : ∀ k : Fin 4, ∀ n : Fin 16, (2 * ((2 ^ k.val : Nat) : Int) * ((min n.val (2 ^ k.val) : Nat) : Int) - ((min n.val (2 ^ k.val) : Nat) : Int) * (((min n.val (2 ^ k.val) : Nat) : Int) + 1)) * ((2 ^ 0 : Nat) : Int) * ((2 ^ k.val : Nat) : Int) = oTl true (2 ^ k.val) n.val * (2 * ((2 ^ k.val : Nat) : Int) * ((2 ^ 0 : Nat) : Int)) := by decide +kernel
theorem oTBF : ∀ k : Fin 4, ∀ n : Fin 16, 0 ≤ oTl true (2 ^ k.val) n.val ∧ oTl true (2 ^ k.val) n.val ≤ 100 := by decide +kernel
theorem oTB5 {S n : Nat} (h : n ≤ 15) : 0 ≤ oTl false S n ∧ oTl false S n ≤ 100 := by show 0 ≤ ((min n S : Nat) : Int) ∧ ((min n S : Nat) : Int) ≤ 100; omega
theorem oP3 {k : Nat} (h : k ≤ 3) : 1 ≤ 2 ^ k ∧ 2 ^ k ≤ 8 := ⟨Nat.two_pow_pos k, Nat.pow_le_pow_right (by decide) h⟩
theorem oSetStep {κ n : Nat} {L : List Value} {v : UInt64} {Q : Nat → Int} (h : ∀ j, j < n → ∃ x, L[j]? = some (.double x) ∧ oQ (Q j) κ x) (hl : n < L.length) (hv : oQ (Q n) κ v) : ∀ j, j < n + 1 → ∃ x, (L.set n (.double v))[j]? = some (.double x) ∧ oQ (Q j) κ x := by
  intro j hj
  rw [List.getElem?_set]
  by_cases e : n = j
  · subst e; exact ⟨v, by rw [if_pos rfl, if_pos hl], hv⟩
  · rw [if_neg e]; exact h j (by omega)
end Kn
theorem d3_0 : decode jdk_29_method_43_code 0 = .ok (.lload_n 0, 1) := by decide +kernel
theorem d3_1 : decode jdk_29_method_43_code 1 = .ok (.l2i, 1) := by decide +kernel
theorem d3_2 : decode jdk_29_method_43_code 2 = .ok (.i2l, 1) := by decide +kernel
theorem d3_3 : decode jdk_29_method_43_code 3 = .ok (.lload_n 0, 1) := by decide +kernel
theorem d3_4 : decode jdk_29_method_43_code 4 = .ok (.lcmp, 1) := by decide +kernel
theorem d3_5 : decode jdk_29_method_43_code 5 = .ok (.ifCond .eq 13, 3) := by decide +kernel
theorem d3_8 : decode jdk_29_method_43_code 8 = .ok (.new 109, 3) := by decide +kernel
theorem d3_11 : decode jdk_29_method_43_code 11 = .ok (.dup, 1) := by decide +kernel
theorem d3_12 : decode jdk_29_method_43_code 12 = .ok (.ldc 111, 2) := by decide +kernel
theorem d3_14 : decode jdk_29_method_43_code 14 = .ok (.invokespecial 113, 3) := by decide +kernel
theorem d3_17 : decode jdk_29_method_43_code 17 = .ok (.athrow, 1) := by decide +kernel
theorem d3_18 : decode jdk_29_method_43_code 18 = .ok (.lload_n 0, 1) := by decide +kernel
theorem d3_19 : decode jdk_29_method_43_code 19 = .ok (.l2i, 1) := by decide +kernel
theorem d3_20 : decode jdk_29_method_43_code 20 = .ok (.ireturn, 1) := by decide +kernel
set_option maxRecDepth 65536 in
set_option maxHeartbeats 40000000 in
theorem own_tie {l : Launch} {Z : State} {a0 : Array Value} {h0 : Heap} (hw : ∀ d ∈ tables_1, d.before a0 Z = true) {ds0 : oDs} {qq : Int64} (hq : 0 ≤ qq.toInt ∧ qq.toInt ≤ 2147483647) :
    oCtr l Z h0 [] (⟨"java/lang/Math", "toIntExact", "(J)I"⟩ : MethodName) jdk_29_method_43_code 2 (some .int) ({ frames := 0, cells := 0, slots := 0, locals := 0 } : Room) #[(.long qq)] ds0 (oVal fun w d => ∃ z : Int32, w = .int z ∧ z.toInt = qq.toInt ∧ d = ds0) := by
  refine oCtr.of (Ls := #[.val (.long qq), .second]) (Jvm.Free.JP.mathPlain rfl (by decide +kernel)) (fun m => by first | (simp [entryFrame, mkF, argsToLocals, Value.category]; done) | rfl) ?_
  intro p e s m below meth c K
  refine oW.lloadN (pc' := 1) K d3_0 rfl rfl ?_
  obtain ⟨v1, ev1⟩ : ∃ t_ : Int32, t_ = qq.toInt32 := ⟨_, rfl⟩
  refine oW.l2i (pc' := 2) K d3_1 ev1 rfl ?_
  have tv1 := oL2I ev1 (by omega)
  obtain ⟨v2, ev2⟩ : ∃ t_ : Int64, t_ = v1.toInt64 := ⟨_, rfl⟩
  refine oW.i2l (pc' := 3) K d3_2 ev2 rfl ?_
  have tv2 : v2.toInt = _ := oI2L ev2
  refine oW.lloadN (pc' := 4) K d3_3 rfl rfl ?_
  obtain ⟨v4, ev4⟩ : ∃ t_ : Int32, t_ = XT.cmpL v2 qq := ⟨_, rfl⟩
  refine oW.lcmp (pc' := 5) K d3_4 ev4 rfl ?_
  refine oW.if_eq (pc' := 18) (pc3 := 8) K d3_5 (by decide) (by decide) rfl (fun c5 => ?_) (fun q => absurd ((oLcmp ev4).2.1.mpr (by omega)) q)
  refine oW.lloadN (pc' := 19) K d3_18 rfl rfl ?_
  obtain ⟨v19, ev19⟩ : ∃ t_ : Int32, t_ = qq.toInt32 := ⟨_, rfl⟩
  refine oW.l2i (pc' := 20) K d3_19 ev19 rfl ?_
  have tv19 := oL2I ev19 (by omega)
  exact oW.retI K rfl d3_20 (by decide) (by decide) ⟨_, rfl, _, rfl, tv19, rfl⟩
theorem d8_0 : decode jdk_29_method_69_code 0 = .ok (.iload_n 0, 1) := by decide +kernel
theorem d8_1 : decode jdk_29_method_69_code 1 = .ok (.iload_n 1, 1) := by decide +kernel
theorem d8_2 : decode jdk_29_method_69_code 2 = .ok (.if_icmp .gt 7, 3) := by decide +kernel
theorem d8_5 : decode jdk_29_method_69_code 5 = .ok (.iload_n 0, 1) := by decide +kernel
theorem d8_6 : decode jdk_29_method_69_code 6 = .ok (.goto 4, 3) := by decide +kernel
theorem d8_9 : decode jdk_29_method_69_code 9 = .ok (.iload_n 1, 1) := by decide +kernel
theorem d8_10 : decode jdk_29_method_69_code 10 = .ok (.ireturn, 1) := by decide +kernel
set_option maxRecDepth 65536 in
set_option maxHeartbeats 40000000 in
theorem own_min {l : Launch} {Z : State} {a0 : Array Value} {h0 : Heap} (hw : ∀ d ∈ tables_1, d.before a0 Z = true) {ds0 : oDs} {ma mb : Int32} {a b : Nat} (ha : ma = Int32.ofNat a) (hb : mb = Int32.ofNat b) (h1 : a < 1000) (h2 : b < 1000) :
    oCtr l Z h0 [] (⟨"java/lang/Math", "min", "(II)I"⟩ : MethodName) jdk_29_method_69_code 2 (some .int) ({ frames := 0, cells := 0, slots := 0, locals := 0 } : Room) #[(.int ma), (.int mb)] ds0 (oVal fun w d => ∃ z : Int32, w = .int z ∧ z = Int32.ofNat (min a b) ∧ d = ds0) := by
  refine oCtr.of (Ls := #[.val (.int ma), .val (.int mb)]) (Jvm.Free.JP.mathPlain rfl (by decide +kernel)) (fun m => by first | (simp [entryFrame, mkF, argsToLocals, Value.category]; done) | rfl) ?_
  intro p e s m below meth c K
  have ta := oNatI ha (by omega)
  have tb := oNatI hb (by omega)
  refine oW.iloadN (pc' := 1) K d8_0 rfl rfl ?_
  refine oW.iloadN (pc' := 2) K d8_1 rfl rfl ?_
  refine oW.icmp_gt (pc' := 9) (pc3 := 5) K d8_2 (by decide) (by decide) rfl (fun c2 => ?_) (fun c2 => ?_)
  · simp only [oLt32, oEq32, Int32.reduceToInt] at c2
    refine oW.iloadN (pc' := 10) K d8_9 rfl rfl ?_
    exact oW.retI K rfl d8_10 (by decide) (by decide) ⟨_, rfl, _, rfl, hb.trans (congrArg Int32.ofNat (by omega)), rfl⟩
  · simp only [oLt32, oEq32, Int32.reduceToInt] at c2
    refine oW.iloadN (pc' := 6) K d8_5 rfl rfl ?_
    refine oW.goto (pc' := 10) K d8_6 (by decide) (by decide) ?_
    exact oW.retI K rfl d8_10 (by decide) (by decide) ⟨_, rfl, _, rfl, ha.trans (congrArg Int32.ofNat (by omega)), rfl⟩
theorem d7_0 : decode method_3_code 0 = .ok (.iload_n 2, 1) := by decide +kernel
theorem d7_1 : decode method_3_code 1 = .ok (.iload_n 1, 1) := by decide +kernel
theorem d7_2 : decode method_3_code 2 = .ok (.invokestatic 32, 3) := by decide +kernel
theorem d7_5 : decode method_3_code 5 = .ok (.istore_n 3, 1) := by decide +kernel
theorem d7_6 : decode method_3_code 6 = .ok (.iload_n 0, 1) := by decide +kernel
theorem d7_7 : decode method_3_code 7 = .ok (.ifCond .ne 6, 3) := by decide +kernel
theorem d7_10 : decode method_3_code 10 = .ok (.iload_n 3, 1) := by decide +kernel
theorem d7_11 : decode method_3_code 11 = .ok (.i2d, 1) := by decide +kernel
theorem d7_12 : decode method_3_code 12 = .ok (.dreturn, 1) := by decide +kernel
theorem d7_13 : decode method_3_code 13 = .ok (.iconst 2, 1) := by decide +kernel
theorem d7_14 : decode method_3_code 14 = .ok (.iload_n 1, 1) := by decide +kernel
theorem d7_15 : decode method_3_code 15 = .ok (.imul, 1) := by decide +kernel
theorem d7_16 : decode method_3_code 16 = .ok (.iload_n 3, 1) := by decide +kernel
theorem d7_17 : decode method_3_code 17 = .ok (.imul, 1) := by decide +kernel
theorem d7_18 : decode method_3_code 18 = .ok (.iload_n 3, 1) := by decide +kernel
theorem d7_19 : decode method_3_code 19 = .ok (.iload_n 3, 1) := by decide +kernel
theorem d7_20 : decode method_3_code 20 = .ok (.iconst 1, 1) := by decide +kernel
theorem d7_21 : decode method_3_code 21 = .ok (.iadd, 1) := by decide +kernel
theorem d7_22 : decode method_3_code 22 = .ok (.imul, 1) := by decide +kernel
theorem d7_23 : decode method_3_code 23 = .ok (.isub, 1) := by decide +kernel
theorem d7_24 : decode method_3_code 24 = .ok (.i2d, 1) := by decide +kernel
theorem d7_25 : decode method_3_code 25 = .ok (.iconst 2, 1) := by decide +kernel
theorem d7_26 : decode method_3_code 26 = .ok (.iload_n 1, 1) := by decide +kernel
theorem d7_27 : decode method_3_code 27 = .ok (.imul, 1) := by decide +kernel
theorem d7_28 : decode method_3_code 28 = .ok (.i2d, 1) := by decide +kernel
theorem d7_29 : decode method_3_code 29 = .ok (.ddiv, 1) := by decide +kernel
theorem d7_30 : decode method_3_code 30 = .ok (.dreturn, 1) := by decide +kernel
theorem pd_0 : parseMethodDescriptor "(II)I" = some ⟨[.int, .int], some .int⟩ := by decide +kernel
set_option maxRecDepth 65536 in
set_option maxHeartbeats 40000000 in
theorem own_tail0 {l : Launch} {Z : State} {a0 : Array Value} {h0 : Heap} (hw : ∀ d ∈ tables_1, d.before a0 Z = true) {ds0 : oDs} {sI nI : Int32} {S n : Nat} (hn : nI = Int32.ofNat n) (hs : sI = Int32.ofNat (S)) (h1 : n ≤ 15) (h2 : S ≤ 16) :
    oCtr l Z h0 [] (⟨"com/example/term_proximity_ranking/termproximityranking/plm/KernelWeightsPositionLengthsPinLaw", "tail", "(ZII)D"⟩ : MethodName) method_3_code 4 (some .double) ({ frames := 1, cells := 0, slots := 0, locals := 30 } : Room) #[(.int (0 : Int32)), (.int sI), (.int nI)] ds0 (oVal fun w d => ∃ v : UInt64, w = .double v ∧ oQ (oTl false (S) n) 0 v ∧ d = ds0) := by
  refine oCtr.of (Ls := #[.val (.int (0 : Int32)), .val (.int sI), .val (.int nI), .unset]) (plainFor_of_name (by first | (simp [plainName, overriddenIn]; done) | decide +kernel)) (fun m => by first | (simp [entryFrame, mkF, argsToLocals, Value.category]; done) | rfl) ?_
  intro p e s m below meth c K
  refine oW.iloadN (pc' := 1) K d7_0 rfl rfl ?_
  refine oW.iloadN (pc' := 2) K d7_1 rfl rfl ?_
  refine oW.callS (argsL := [(.int nI), (.int sI)]) (S := []) (rm := ({ frames := 0, cells := 0, slots := 0, locals := 0 } : Room)) (W := 0) (cells' := 0) (slots' := 0) (pc' := 5) K (hw _ (List.mem_of_getElem? (i := 49) rfl)) (hw _ (List.mem_of_getElem? (i := 50) rfl)) (hw _ (List.mem_of_getElem? (i := 16) rfl)) (hw _ (List.mem_of_getElem? (i := 51) rfl)) (by decide) (own_min hw hn hs (by omega) (by omega)) (lenOf pd_0 rfl) d7_2 rfl rfl (Nat.le_of_eq rfl) (by decide) (by decide) (by decide) (by decide) rfl rfl rfl ?_
  rintro _ _ ⟨mz, rfl, hmz, rfl⟩
  have tm := oNatI hmz (by omega)
  refine oW.istoreN (Ls' := #[.val (.int (0 : Int32)), .val (.int sI), .val (.int nI), .val (.int mz)]) (pc' := 6) K d7_5 rfl rfl ?_
  refine oW.iloadN (pc' := 7) K d7_6 rfl rfl ?_
  refine oW.if_ne (pc' := 13) (pc3 := 10) K d7_7 (by decide) (by decide) rfl (fun q => absurd q (by decide)) (fun _ => ?_)
  refine oW.iloadN (pc' := 11) K d7_10 rfl rfl ?_
  obtain ⟨v11, ev11⟩ : ∃ t_ : UInt64, t_ = FP.i2d mz := ⟨_, rfl⟩
  have qv11 : oQ (oTl false S n) 0 v11 := (oQ.int (oI2D ev11)).cast rfl tm
  refine oW.i2d (pc' := 12) K d7_11 ev11 rfl ?_
  exact oW.retD K rfl d7_12 (by decide) (by decide) ⟨_, rfl, _, rfl, qv11, rfl⟩
set_option maxRecDepth 65536 in
set_option maxHeartbeats 40000000 in
theorem own_tail1 {l : Launch} {Z : State} {a0 : Array Value} {h0 : Heap} (hw : ∀ d ∈ tables_1, d.before a0 Z = true) {ds0 : oDs} {sI nI : Int32} {κ n : Nat} (hn : nI = Int32.ofNat n) (hs : sI = Int32.ofNat (2 ^ κ)) (h1 : n ≤ 15) (h2 : κ ≤ 3) :
    oCtr l Z h0 [] (⟨"com/example/term_proximity_ranking/termproximityranking/plm/KernelWeightsPositionLengthsPinLaw", "tail", "(ZII)D"⟩ : MethodName) method_3_code 4 (some .double) ({ frames := 1, cells := 0, slots := 0, locals := 30 } : Room) #[(.int (1 : Int32)), (.int sI), (.int nI)] ds0 (oVal fun w d => ∃ v : UInt64, w = .double v ∧ oQ (oTl true (2 ^ κ) n) κ v ∧ d = ds0) := by
  refine oCtr.of (Ls := #[.val (.int (1 : Int32)), .val (.int sI), .val (.int nI), .unset]) (plainFor_of_name (by first | (simp [plainName, overriddenIn]; done) | decide +kernel)) (fun m => by first | (simp [entryFrame, mkF, argsToLocals, Value.category]; done) | rfl) ?_
  intro p e s m below meth c K
  have hp := oP3 h2
  refine oW.iloadN (pc' := 1) K d7_0 rfl rfl ?_
  refine oW.iloadN (pc' := 2) K d7_1 rfl rfl ?_
  refine oW.callS (argsL := [(.int nI), (.int sI)]) (S := []) (rm := ({ frames := 0, cells := 0, slots := 0, locals := 0 } : Room)) (W := 0) (cells' := 0) (slots' := 0) (pc' := 5) K (hw _ (List.mem_of_getElem? (i := 49) rfl)) (hw _ (List.mem_of_getElem? (i := 50) rfl)) (hw _ (List.mem_of_getElem? (i := 16) rfl)) (hw _ (List.mem_of_getElem? (i := 51) rfl)) (by decide) (own_min hw hn hs (by omega) (by omega)) (lenOf pd_0 rfl) d7_2 rfl rfl (Nat.le_of_eq rfl) (by decide) (by decide) (by decide) (by decide) rfl rfl rfl ?_
  rintro _ _ ⟨mz, rfl, hmz, rfl⟩
  have tm := oNatI hmz (by omega)
  refine oW.istoreN (Ls' := #[.val (.int (1 : Int32)), .val (.int sI), .val (.int nI), .val (.int mz)]) (pc' := 6) K d7_5 rfl rfl ?_
  refine oW.iloadN (pc' := 7) K d7_6 rfl rfl ?_
  refine oW.if_ne (pc' := 13) (pc3 := 10) K d7_7 (by decide) (by decide) rfl (fun _ => ?_) (fun q => absurd q (by decide))
  refine oW.iconst (v := (2 : Int32)) (pc' := 14) K d7_13 (by decide) rfl ?_
  refine oW.iloadN (pc' := 15) K d7_14 rfl rfl ?_
  obtain ⟨v15, ev15⟩ : ∃ t_ : Int32, t_ = (2 : Int32) * sI := ⟨_, rfl⟩
  refine oW.imul (pc' := 16) K d7_15 ev15 rfl ?_
  refine oW.iloadN (pc' := 17) K d7_16 rfl rfl ?_
  obtain ⟨v17, ev17⟩ : ∃ t_ : Int32, t_ = v15 * mz := ⟨_, rfl⟩
  refine oW.imul (pc' := 18) K d7_17 ev17 rfl ?_
  refine oW.iloadN (pc' := 19) K d7_18 rfl rfl ?_
  refine oW.iloadN (pc' := 20) K d7_19 rfl rfl ?_
  refine oW.iconst (v := (1 : Int32)) (pc' := 21) K d7_20 (by decide) rfl ?_
  obtain ⟨v21, ev21⟩ : ∃ t_ : Int32, t_ = mz + (1 : Int32) := ⟨_, rfl⟩
  refine oW.iadd (pc' := 22) K d7_21 ev21 rfl ?_
  obtain ⟨v22, ev22⟩ : ∃ t_ : Int32, t_ = mz * v21 := ⟨_, rfl⟩
  refine oW.imul (pc' := 23) K d7_22 ev22 rfl ?_
  obtain ⟨v23, ev23⟩ : ∃ t_ : Int32, t_ = v17 - v22 := ⟨_, rfl⟩
  refine oW.isub (pc' := 24) K d7_23 ev23 rfl ?_
  obtain ⟨v24, ev24⟩ : ∃ t_ : UInt64, t_ = FP.i2d v23 := ⟨_, rfl⟩
  have t23 : v23.toInt = 2 * ((2 ^ κ : Nat) : Int) * ((min n (2 ^ κ) : Nat) : Int) - ((min n (2 ^ κ) : Nat) : Int) * (((min n (2 ^ κ) : Nat) : Int) + 1) := by rw [ev23, ev17, ev15, ev22, ev21, hs, hmz]; exact oTNF ⟨κ, by omega⟩ ⟨min n (2 ^ κ), by omega⟩
  have qv24 := t23 ▸ oQ.int (oI2D ev24)
  refine oW.i2d (pc' := 25) K d7_24 ev24 rfl ?_
  refine oW.iconst (v := (2 : Int32)) (pc' := 26) K d7_25 (by decide) rfl ?_
  refine oW.iloadN (pc' := 27) K d7_26 rfl rfl ?_
  obtain ⟨v27, ev27⟩ : ∃ t_ : Int32, t_ = (2 : Int32) * sI := ⟨_, rfl⟩
  refine oW.imul (pc' := 28) K d7_27 ev27 rfl ?_
  obtain ⟨v28, ev28⟩ : ∃ t_ : UInt64, t_ = FP.i2d v27 := ⟨_, rfl⟩
  have t27 : v27.toInt = 2 * ((2 ^ κ : Nat) : Int) := by rw [ev27, hs]; exact oTDF ⟨κ, by omega⟩
  have qv28 := t27 ▸ oQ.int (oI2D ev28)
  refine oW.i2d (pc' := 29) K d7_28 ev28 rfl ?_
  obtain ⟨v29, ev29⟩ : ∃ t_ : UInt64, t_ = FP.ddiv v24 v28 := ⟨_, rfl⟩
  have b29 : 0 ≤ oTl true (2 ^ κ) n ∧ oTl true (2 ^ κ) n ≤ 100 := oTBF ⟨κ, by omega⟩ ⟨n, by omega⟩
  have qv29 : oQ (oTl true (2 ^ κ) n) κ v29 := qv24.divx qv28 ev29 _ κ (by omega) (by decide) (by decide) (by omega) (by omega) (oTXF ⟨κ, by omega⟩ ⟨n, by omega⟩)
  refine oW.ddiv (pc' := 30) K d7_29 ev29 (qv29.nn) rfl ?_
  exact oW.retD K rfl d7_30 (by decide) (by decide) ⟨_, rfl, _, rfl, qv29, rfl⟩
theorem d5_0 : decode prog_41_method_2_code 0 = .ok (.dconst 1, 1) := by decide +kernel
theorem d5_1 : decode prog_41_method_2_code 1 = .ok (.dreturn, 1) := by decide +kernel
set_option maxRecDepth 65536 in
set_option maxHeartbeats 40000000 in
theorem own_shape5 {l : Launch} {Z : State} {a0 : Array Value} {h0 : Heap} (hw : ∀ d ∈ tables_1, d.before a0 Z = true) {ds0 : oDs} {ob : Addr} {xx : UInt64} :
    oCtr l Z h0 [] (⟨"com/example/term_proximity_ranking/termproximityranking/plm/Kernel$5", "shape", "(D)D"⟩ : MethodName) prog_41_method_2_code 3 (some .double) ({ frames := 0, cells := 0, slots := 0, locals := 0 } : Room) #[(.ref ob), (.double xx)] ds0 (oVal fun w d => w = .double 4607182418800017408 ∧ d = ds0) := by
  refine oCtr.of (Ls := #[.val (.ref ob), .val (.double xx), .second]) (plainFor_of_name (by first | (simp [plainName, overriddenIn]; done) | decide +kernel)) (fun m => by first | (simp [entryFrame, mkF, argsToLocals, Value.category]; done) | rfl) ?_
  intro p e s m below meth c K
  refine oW.dconst1 (pc' := 1) K d5_0 rfl ?_
  exact oW.retD K rfl d5_1 (by decide) (by decide) ⟨_, rfl, rfl, rfl⟩
theorem d9_0 : decode prog_38_method_2_code 0 = .ok (.dconst 1, 1) := by decide +kernel
theorem d9_1 : decode prog_38_method_2_code 1 = .ok (.dload_n 1, 1) := by decide +kernel
theorem d9_2 : decode prog_38_method_2_code 2 = .ok (.dsub, 1) := by decide +kernel
theorem d9_3 : decode prog_38_method_2_code 3 = .ok (.dreturn, 1) := by decide +kernel
set_option maxRecDepth 65536 in
set_option maxHeartbeats 40000000 in
theorem own_shape2 {l : Launch} {Z : State} {a0 : Array Value} {h0 : Heap} (hw : ∀ d ∈ tables_1, d.before a0 Z = true) {ds0 : oDs} {ob : Addr} {xx : UInt64} {κ : Nat} {n : Int} (hx : oQ n κ xx) (hκ : κ ≤ 3) (hn : 0 ≤ n ∧ n ≤ 100) :
    oCtr l Z h0 [] (⟨"com/example/term_proximity_ranking/termproximityranking/plm/Kernel$2", "shape", "(D)D"⟩ : MethodName) prog_38_method_2_code 3 (some .double) ({ frames := 0, cells := 0, slots := 0, locals := 0 } : Room) #[(.ref ob), (.double xx)] ds0 (oVal fun w d => ∃ v : UInt64, w = .double v ∧ oQ (((2 ^ κ : Nat) : Int) - n) κ v ∧ d = ds0) := by
  refine oCtr.of (Ls := #[.val (.ref ob), .val (.double xx), .second]) (plainFor_of_name (by first | (simp [plainName, overriddenIn]; done) | decide +kernel)) (fun m => by first | (simp [entryFrame, mkF, argsToLocals, Value.category]; done) | rfl) ?_
  intro p e s m below meth c K
  have hp := oP3 hκ
  refine oW.dconst1 (pc' := 1) K d9_0 rfl ?_
  refine oW.dloadN (pc' := 2) K d9_1 rfl rfl ?_
  obtain ⟨v2, ev2⟩ : ∃ t_ : UInt64, t_ = FP.dsub (4607182418800017408 : UInt64) xx := ⟨_, rfl⟩
  have qv2 : oQ (((2 ^ κ : Nat) : Int) - n) κ v2 := (oQone κ (by omega)).sub hx ev2 (by omega) (by omega)
  refine oW.dsub (pc' := 3) K d9_2 ev2 (qv2.nn) rfl ?_
  exact oW.retD K rfl d9_3 (by decide) (by decide) ⟨_, rfl, _, rfl, qv2, rfl⟩
theorem d4_0 : decode prog_36_method_6_code 0 = .ok (.aload_n 0, 1) := by decide +kernel
theorem d4_1 : decode prog_36_method_6_code 1 = .ok (.getfield 42, 3) := by decide +kernel
theorem d4_4 : decode prog_36_method_6_code 4 = .ok (.ifCond .eq 12, 3) := by decide +kernel
theorem d4_7 : decode prog_36_method_6_code 7 = .ok (.iload_n 1, 1) := by decide +kernel
theorem d4_8 : decode prog_36_method_6_code 8 = .ok (.i2d, 1) := by decide +kernel
theorem d4_9 : decode prog_36_method_6_code 9 = .ok (.dload_n 2, 1) := by decide +kernel
theorem d4_10 : decode prog_36_method_6_code 10 = .ok (.dcmp .l, 1) := by decide +kernel
theorem d4_11 : decode prog_36_method_6_code 11 = .ok (.ifCond .le 5, 3) := by decide +kernel
theorem d4_14 : decode prog_36_method_6_code 14 = .ok (.dconst 0, 1) := by decide +kernel
theorem d4_15 : decode prog_36_method_6_code 15 = .ok (.dreturn, 1) := by decide +kernel
theorem d4_16 : decode prog_36_method_6_code 16 = .ok (.aload_n 0, 1) := by decide +kernel
theorem d4_17 : decode prog_36_method_6_code 17 = .ok (.iload_n 1, 1) := by decide +kernel
theorem d4_18 : decode prog_36_method_6_code 18 = .ok (.i2d, 1) := by decide +kernel
theorem d4_19 : decode prog_36_method_6_code 19 = .ok (.dload_n 2, 1) := by decide +kernel
theorem d4_20 : decode prog_36_method_6_code 20 = .ok (.ddiv, 1) := by decide +kernel
theorem d4_21 : decode prog_36_method_6_code 21 = .ok (.invokevirtual 93, 3) := by decide +kernel
theorem d4_24 : decode prog_36_method_6_code 24 = .ok (.dreturn, 1) := by decide +kernel
theorem pd_1 : parseMethodDescriptor "(D)D" = some ⟨[.double], some .double⟩ := by decide +kernel
set_option maxRecDepth 65536 in
set_option maxHeartbeats 40000000 in
theorem own_weight5 {l : Launch} {Z : State} {a0 : Array Value} {h0 : Heap} (hw : ∀ d ∈ tables_1, d.before a0 Z = true) {a : Addr} (hE : Exa Z h0 a "com/example/term_proximity_ranking/termproximityranking/plm/Kernel$5") (hF : Fld Z h0 a "com/example/term_proximity_ranking/termproximityranking/plm/Kernel" "bounded" "Z" (.int 1)) {iI : Int32} {sg : UInt64} {S n : Nat} (h2 : 1 ≤ S ∧ S ≤ 16) (hS : oQ ((S : Nat) : Int) 0 sg) (hi : iI = Int32.ofNat n) (hn : n ≤ 15) (ds0 : oDs) :
    oCtr l Z h0 [] (⟨"com/example/term_proximity_ranking/termproximityranking/plm/Kernel", "weight", "(ID)D"⟩ : MethodName) prog_36_method_6_code 4 (some .double) ({ frames := 1, cells := 0, slots := 0, locals := 30 } : Room) #[(.ref a), (.int iI), (.double sg)] ds0 (oVal fun w d => ∃ v : UInt64, w = .double v ∧ oQ (oG false (S) n) 0 v ∧ d = ds0) := by
  refine oCtr.of (Ls := #[.val (.ref a), .val (.int iI), .val (.double sg), .second]) (plainFor_of_name (by first | (simp [plainName, overriddenIn]; done) | decide +kernel)) (fun m => by first | (simp [entryFrame, mkF, argsToLocals, Value.category]; done) | rfl) ?_
  intro p e s m below meth c K
  have ti := oNatI hi (by omega)
  refine oW.aloadN (pc' := 1) K d4_0 rfl rfl rfl ?_
  refine oW.getfH (pc' := 4) K (hw _ (List.mem_of_getElem? (i := 24) rfl)) hF d4_1 rfl ?_
  refine oW.if_eq (pc' := 16) (pc3 := 7) K d4_4 (by decide) (by decide) rfl (fun q => absurd q (by decide)) (fun _ => ?_)
  refine oW.iloadN (pc' := 8) K d4_7 rfl rfl ?_
  obtain ⟨v8, ev8⟩ : ∃ t_ : UInt64, t_ = FP.i2d iI := ⟨_, rfl⟩
  have qv8 : oQ (n : Int) 0 v8 := ti ▸ oQ.int (oI2D ev8)
  refine oW.i2d (pc' := 9) K d4_8 ev8 rfl ?_
  refine oW.dloadN (pc' := 10) K d4_9 rfl rfl ?_
  obtain ⟨v10, ev10⟩ : ∃ t_ : Int32, t_ = cmpValue (FP.dcmp v8 sg) .l := ⟨_, rfl⟩
  refine oW.dcmp (pc' := 11) K d4_10 ev10 rfl ?_
  refine oW.if_le (pc' := 16) (pc3 := 14) K d4_11 (by decide) (by decide) rfl (fun c11 => ?_) (fun c11 => ?_)
  · rw [(qv8.cmp hS ev10).2.2] at c11
    refine oW.aloadN (pc' := 17) K d4_16 rfl rfl rfl ?_
    refine oW.iloadN (pc' := 18) K d4_17 rfl rfl ?_
    obtain ⟨v18, ev18⟩ : ∃ t_ : UInt64, t_ = FP.i2d iI := ⟨_, rfl⟩
    have qv18 : oQ (n : Int) 0 v18 := ti ▸ oQ.int (oI2D ev18)
    refine oW.i2d (pc' := 19) K d4_18 ev18 rfl ?_
    refine oW.dloadN (pc' := 20) K d4_19 rfl rfl ?_
    obtain ⟨v20, ev20⟩ : ∃ t_ : UInt64, t_ = FP.ddiv v18 sg := ⟨_, rfl⟩
    refine oW.ddiv (pc' := 21) K d4_20 ev20 (qv18.divnn hS ev20 (by omega) (by decide) (by decide)) rfl ?_
    refine oW.callV (a := a) (argsL := [(.double v20)]) (S := []) (rm := ({ frames := 0, cells := 0, slots := 0, locals := 0 } : Room)) (W := 0) (cells' := 0) (slots' := 0) (pc' := 24) K (hw _ (List.mem_of_getElem? (i := 26) rfl)) (hw _ (List.mem_of_getElem? (i := 27) rfl)) (hw _ (List.mem_of_getElem? (i := 28) rfl)) (hw _ (List.mem_of_getElem? (i := 29) rfl)) (hw _ (List.mem_of_getElem? (i := 31) rfl)) (hw _ (List.mem_of_getElem? (i := 30) rfl)) (by decide) (oNF2 (hw _ (List.mem_of_getElem? (i := 22) rfl)) rfl) (fun _ M => hE.ext M.1) (own_shape5 hw) (lenOf pd_1 rfl) d4_21 rfl rfl (Nat.le_of_eq rfl) (by decide) (by decide) (by decide) (by decide) rfl rfl rfl ?_
    rintro _ _ ⟨rfl, rfl⟩
    exact oW.retD K rfl d4_24 (by decide) (by decide) ⟨_, rfl, _, rfl, (by rw [oG_in5 (by omega)]; exact oQone 0 (by decide)), rfl⟩
  · rw [(qv8.cmp hS ev10).2.2] at c11
    refine oW.dconst0 (pc' := 15) K d4_14 rfl ?_
    exact oW.retD K rfl d4_15 (by decide) (by decide) ⟨_, rfl, _, rfl, (by rw [oG_out (by omega)]; exact oQ0 _), rfl⟩
set_option maxRecDepth 65536 in
set_option maxHeartbeats 40000000 in
theorem own_weight2 {l : Launch} {Z : State} {a0 : Array Value} {h0 : Heap} (hw : ∀ d ∈ tables_1, d.before a0 Z = true) {a : Addr} (hE : Exa Z h0 a "com/example/term_proximity_ranking/termproximityranking/plm/Kernel$2") (hF : Fld Z h0 a "com/example/term_proximity_ranking/termproximityranking/plm/Kernel" "bounded" "Z" (.int 1)) {iI : Int32} {sg : UInt64} {κ n : Nat} (h2 : κ ≤ 3) (hS : oQ ((2 ^ κ : Nat) : Int) 0 sg) (hi : iI = Int32.ofNat n) (hn : n ≤ 15) (ds0 : oDs) :
    oCtr l Z h0 [] (⟨"com/example/term_proximity_ranking/termproximityranking/plm/Kernel", "weight", "(ID)D"⟩ : MethodName) prog_36_method_6_code 4 (some .double) ({ frames := 1, cells := 0, slots := 0, locals := 30 } : Room) #[(.ref a), (.int iI), (.double sg)] ds0 (oVal fun w d => ∃ v : UInt64, w = .double v ∧ oQ (oG true (2 ^ κ) n) κ v ∧ d = ds0) := by
  refine oCtr.of (Ls := #[.val (.ref a), .val (.int iI), .val (.double sg), .second]) (plainFor_of_name (by first | (simp [plainName, overriddenIn]; done) | decide +kernel)) (fun m => by first | (simp [entryFrame, mkF, argsToLocals, Value.category]; done) | rfl) ?_
  intro p e s m below meth c K
  have ti := oNatI hi (by omega)
  have hκ := h2
  have hp := oP3 h2
  refine oW.aloadN (pc' := 1) K d4_0 rfl rfl rfl ?_
  refine oW.getfH (pc' := 4) K (hw _ (List.mem_of_getElem? (i := 24) rfl)) hF d4_1 rfl ?_
  refine oW.if_eq (pc' := 16) (pc3 := 7) K d4_4 (by decide) (by decide) rfl (fun q => absurd q (by decide)) (fun _ => ?_)
  refine oW.iloadN (pc' := 8) K d4_7 rfl rfl ?_
  obtain ⟨v8, ev8⟩ : ∃ t_ : UInt64, t_ = FP.i2d iI := ⟨_, rfl⟩
  have qv8 : oQ (n : Int) 0 v8 := ti ▸ oQ.int (oI2D ev8)
  refine oW.i2d (pc' := 9) K d4_8 ev8 rfl ?_
  refine oW.dloadN (pc' := 10) K d4_9 rfl rfl ?_
  obtain ⟨v10, ev10⟩ : ∃ t_ : Int32, t_ = cmpValue (FP.dcmp v8 sg) .l := ⟨_, rfl⟩
  refine oW.dcmp (pc' := 11) K d4_10 ev10 rfl ?_
  refine oW.if_le (pc' := 16) (pc3 := 14) K d4_11 (by decide) (by decide) rfl (fun c11 => ?_) (fun c11 => ?_)
  · rw [(qv8.cmp hS ev10).2.2] at c11
    refine oW.aloadN (pc' := 17) K d4_16 rfl rfl rfl ?_
    refine oW.iloadN (pc' := 18) K d4_17 rfl rfl ?_
    obtain ⟨v18, ev18⟩ : ∃ t_ : UInt64, t_ = FP.i2d iI := ⟨_, rfl⟩
    have qv18 : oQ (n : Int) 0 v18 := ti ▸ oQ.int (oI2D ev18)
    refine oW.i2d (pc' := 19) K d4_18 ev18 rfl ?_
    refine oW.dloadN (pc' := 20) K d4_19 rfl rfl ?_
    obtain ⟨v20, ev20⟩ : ∃ t_ : UInt64, t_ = FP.ddiv v18 sg := ⟨_, rfl⟩
    have qv20 : oQ (n : Int) κ v20 := qv18.divx hS ev20 _ κ (by omega) (by decide) (by decide) (by omega) (by omega) (by show (n : Int) * 1 * _ = (n : Int) * (_ * 1); rw [Int.mul_one, Int.mul_one])
    refine oW.ddiv (pc' := 21) K d4_20 ev20 (qv20.nn) rfl ?_
    refine oW.callV (a := a) (argsL := [(.double v20)]) (S := []) (rm := ({ frames := 0, cells := 0, slots := 0, locals := 0 } : Room)) (W := 0) (cells' := 0) (slots' := 0) (pc' := 24) K (hw _ (List.mem_of_getElem? (i := 26) rfl)) (hw _ (List.mem_of_getElem? (i := 27) rfl)) (hw _ (List.mem_of_getElem? (i := 56) rfl)) (hw _ (List.mem_of_getElem? (i := 57) rfl)) (hw _ (List.mem_of_getElem? (i := 59) rfl)) (hw _ (List.mem_of_getElem? (i := 58) rfl)) (by decide) (oNF2 (hw _ (List.mem_of_getElem? (i := 54) rfl)) rfl) (fun _ M => hE.ext M.1) (own_shape2 hw qv20 hκ (by omega)) (lenOf pd_1 rfl) d4_21 rfl rfl (Nat.le_of_eq rfl) (by decide) (by decide) (by decide) (by decide) rfl rfl rfl ?_
    rintro _ _ ⟨sv, rfl, qsv, rfl⟩
    exact oW.retD K rfl d4_24 (by decide) (by decide) ⟨_, rfl, _, rfl, (by rw [oG_in2 (by omega)]; exact qsv), rfl⟩
  · rw [(qv8.cmp hS ev10).2.2] at c11
    refine oW.dconst0 (pc' := 15) K d4_14 rfl ?_
    exact oW.retD K rfl d4_15 (by decide) (by decide) ⟨_, rfl, _, rfl, (by rw [oG_out (by omega)]; exact oQ0 _), rfl⟩
theorem d1_0 : decode prog_42_method_1_code 0 = .ok (.aload_n 0, 1) := by decide +kernel
theorem d1_1 : decode prog_42_method_1_code 1 = .ok (.invokespecial 1, 3) := by decide +kernel
theorem d1_4 : decode prog_42_method_1_code 4 = .ok (.ldc2_w 7, 3) := by decide +kernel
theorem d1_7 : decode prog_42_method_1_code 7 = .ok (.iload 4, 2) := by decide +kernel
theorem d1_9 : decode prog_42_method_1_code 9 = .ok (.i2l, 1) := by decide +kernel
theorem d1_10 : decode prog_42_method_1_code 10 = .ok (.lmul, 1) := by decide +kernel
theorem d1_11 : decode prog_42_method_1_code 11 = .ok (.lconst 1, 1) := by decide +kernel
theorem d1_12 : decode prog_42_method_1_code 12 = .ok (.lsub, 1) := by decide +kernel
theorem d1_13 : decode prog_42_method_1_code 13 = .ok (.invokestatic 9, 3) := by decide +kernel
theorem d1_16 : decode prog_42_method_1_code 16 = .ok (.newarray .double, 2) := by decide +kernel
theorem d1_18 : decode prog_42_method_1_code 18 = .ok (.astore 5, 2) := by decide +kernel
theorem d1_20 : decode prog_42_method_1_code 20 = .ok (.iload 4, 2) := by decide +kernel
theorem d1_22 : decode prog_42_method_1_code 22 = .ok (.newarray .double, 2) := by decide +kernel
theorem d1_24 : decode prog_42_method_1_code 24 = .ok (.astore 6, 2) := by decide +kernel
theorem d1_26 : decode prog_42_method_1_code 26 = .ok (.dconst 0, 1) := by decide +kernel
theorem d1_27 : decode prog_42_method_1_code 27 = .ok (.dstore 7, 2) := by decide +kernel
theorem d1_29 : decode prog_42_method_1_code 29 = .ok (.iconst 0, 1) := by decide +kernel
theorem d1_30 : decode prog_42_method_1_code 30 = .ok (.istore 9, 2) := by decide +kernel
theorem d1_32 : decode prog_42_method_1_code 32 = .ok (.iconst 0, 1) := by decide +kernel
theorem d1_33 : decode prog_42_method_1_code 33 = .ok (.istore 10, 2) := by decide +kernel
theorem d1_35 : decode prog_42_method_1_code 35 = .ok (.iload 10, 2) := by decide +kernel
theorem d1_37 : decode prog_42_method_1_code 37 = .ok (.iload 4, 2) := by decide +kernel
theorem d1_39 : decode prog_42_method_1_code 39 = .ok (.if_icmp .ge 67, 3) := by decide +kernel
theorem d1_42 : decode prog_42_method_1_code 42 = .ok (.aload_n 1, 1) := by decide +kernel
theorem d1_43 : decode prog_42_method_1_code 43 = .ok (.iload 10, 2) := by decide +kernel
theorem d1_45 : decode prog_42_method_1_code 45 = .ok (.dload_n 2, 1) := by decide +kernel
theorem d1_46 : decode prog_42_method_1_code 46 = .ok (.invokevirtual 15, 3) := by decide +kernel
theorem d1_49 : decode prog_42_method_1_code 49 = .ok (.dstore 11, 2) := by decide +kernel
theorem d1_51 : decode prog_42_method_1_code 51 = .ok (.aload 5, 2) := by decide +kernel
theorem d1_53 : decode prog_42_method_1_code 53 = .ok (.iload 4, 2) := by decide +kernel
theorem d1_55 : decode prog_42_method_1_code 55 = .ok (.iconst 1, 1) := by decide +kernel
theorem d1_56 : decode prog_42_method_1_code 56 = .ok (.isub, 1) := by decide +kernel
theorem d1_57 : decode prog_42_method_1_code 57 = .ok (.iload 10, 2) := by decide +kernel
theorem d1_59 : decode prog_42_method_1_code 59 = .ok (.iadd, 1) := by decide +kernel
theorem d1_60 : decode prog_42_method_1_code 60 = .ok (.dload 11, 2) := by decide +kernel
theorem d1_62 : decode prog_42_method_1_code 62 = .ok (.dastore, 1) := by decide +kernel
theorem d1_63 : decode prog_42_method_1_code 63 = .ok (.aload 5, 2) := by decide +kernel
theorem d1_65 : decode prog_42_method_1_code 65 = .ok (.iload 4, 2) := by decide +kernel
theorem d1_67 : decode prog_42_method_1_code 67 = .ok (.iconst 1, 1) := by decide +kernel
theorem d1_68 : decode prog_42_method_1_code 68 = .ok (.isub, 1) := by decide +kernel
theorem d1_69 : decode prog_42_method_1_code 69 = .ok (.iload 10, 2) := by decide +kernel
theorem d1_71 : decode prog_42_method_1_code 71 = .ok (.isub, 1) := by decide +kernel
theorem d1_72 : decode prog_42_method_1_code 72 = .ok (.dload 11, 2) := by decide +kernel
theorem d1_74 : decode prog_42_method_1_code 74 = .ok (.dastore, 1) := by decide +kernel
theorem d1_75 : decode prog_42_method_1_code 75 = .ok (.dload 7, 2) := by decide +kernel
theorem d1_77 : decode prog_42_method_1_code 77 = .ok (.dload 11, 2) := by decide +kernel
theorem d1_79 : decode prog_42_method_1_code 79 = .ok (.dadd, 1) := by decide +kernel
theorem d1_80 : decode prog_42_method_1_code 80 = .ok (.dstore 7, 2) := by decide +kernel
theorem d1_82 : decode prog_42_method_1_code 82 = .ok (.aload 6, 2) := by decide +kernel
theorem d1_84 : decode prog_42_method_1_code 84 = .ok (.iload 10, 2) := by decide +kernel
theorem d1_86 : decode prog_42_method_1_code 86 = .ok (.dload 7, 2) := by decide +kernel
theorem d1_88 : decode prog_42_method_1_code 88 = .ok (.dastore, 1) := by decide +kernel
theorem d1_89 : decode prog_42_method_1_code 89 = .ok (.dload 11, 2) := by decide +kernel
theorem d1_91 : decode prog_42_method_1_code 91 = .ok (.dconst 0, 1) := by decide +kernel
theorem d1_92 : decode prog_42_method_1_code 92 = .ok (.dcmp .l, 1) := by decide +kernel
theorem d1_93 : decode prog_42_method_1_code 93 = .ok (.ifCond .eq 7, 3) := by decide +kernel
theorem d1_96 : decode prog_42_method_1_code 96 = .ok (.iload 10, 2) := by decide +kernel
theorem d1_98 : decode prog_42_method_1_code 98 = .ok (.istore 9, 2) := by decide +kernel
theorem d1_100 : decode prog_42_method_1_code 100 = .ok (.iinc 10 1, 3) := by decide +kernel
theorem d1_103 : decode prog_42_method_1_code 103 = .ok (.goto (-68), 3) := by decide +kernel
theorem d1_106 : decode prog_42_method_1_code 106 = .ok (.aload_n 0, 1) := by decide +kernel
theorem d1_107 : decode prog_42_method_1_code 107 = .ok (.iload 4, 2) := by decide +kernel
theorem d1_109 : decode prog_42_method_1_code 109 = .ok (.putfield 21, 3) := by decide +kernel
theorem d1_112 : decode prog_42_method_1_code 112 = .ok (.aload_n 0, 1) := by decide +kernel
theorem d1_113 : decode prog_42_method_1_code 113 = .ok (.aload 5, 2) := by decide +kernel
theorem d1_115 : decode prog_42_method_1_code 115 = .ok (.putfield 27, 3) := by decide +kernel
theorem d1_118 : decode prog_42_method_1_code 118 = .ok (.aload_n 0, 1) := by decide +kernel
theorem d1_119 : decode prog_42_method_1_code 119 = .ok (.aload 6, 2) := by decide +kernel
theorem d1_121 : decode prog_42_method_1_code 121 = .ok (.putfield 31, 3) := by decide +kernel
theorem d1_124 : decode prog_42_method_1_code 124 = .ok (.aload_n 0, 1) := by decide +kernel
theorem d1_125 : decode prog_42_method_1_code 125 = .ok (.iload 9, 2) := by decide +kernel
theorem d1_127 : decode prog_42_method_1_code 127 = .ok (.putfield 34, 3) := by decide +kernel
theorem d1_130 : decode prog_42_method_1_code 130 = .ok (.return_, 1) := by decide +kernel
theorem pd_2 : parseMethodDescriptor "(J)I" = some ⟨[.long], some .int⟩ := by decide +kernel
theorem oLd_0 {Z : State} {a0 : Array Value} (hw : ∀ d ∈ tables_1, d.before a0 Z = true) : ∀ f ∈ ([("com/example/term_proximity_ranking/termproximityranking/plm/KernelWeights", "capacity", "I", (.int (0 : Int32))), ("com/example/term_proximity_ranking/termproximityranking/plm/KernelWeights", "mirrored", "[D", .null), ("com/example/term_proximity_ranking/termproximityranking/plm/KernelWeights", "sums", "[D", .null), ("com/example/term_proximity_ranking/termproximityranking/plm/KernelWeights", "reach", "I", (.int (0 : Int32)))] : List (String × String × String × Value)), Laid Z a0 "com/example/term_proximity_ranking/termproximityranking/plm/KernelWeights" f.1 f.2.1 f.2.2.1 ∧ ∃ t, parseFieldDescriptor f.2.2.1 = some t ∧ f.2.2.2 = defaultValue t := by
    intro f hf
    simp only [List.mem_cons, List.not_mem_nil, or_false] at hf
    rcases hf with rfl | rfl | rfl | rfl
    · exact ⟨Or.inr (hw _ (List.mem_of_getElem? (i := 33) rfl)), .int, (by decide : parseFieldDescriptor "I" = some .int), rfl⟩
    · exact ⟨Or.inr (hw _ (List.mem_of_getElem? (i := 35) rfl)), (.array .double), (by decide : parseFieldDescriptor "[D" = some (.array .double)), rfl⟩
    · exact ⟨Or.inr (hw _ (List.mem_of_getElem? (i := 37) rfl)), (.array .double), (by decide : parseFieldDescriptor "[D" = some (.array .double)), rfl⟩
    · exact ⟨Or.inr (hw _ (List.mem_of_getElem? (i := 39) rfl)), .int, (by decide : parseFieldDescriptor "I" = some .int), rfl⟩
theorem oAp_0 {Z : State} {a0 : Array Value} (hw : ∀ d ∈ tables_1, d.before a0 Z = true) {y0 y1 y2 y3 : Value} : oApart Z [("com/example/term_proximity_ranking/termproximityranking/plm/KernelWeights", "capacity", "I", y0), ("com/example/term_proximity_ranking/termproximityranking/plm/KernelWeights", "mirrored", "[D", y1), ("com/example/term_proximity_ranking/termproximityranking/plm/KernelWeights", "sums", "[D", y2), ("com/example/term_proximity_ranking/termproximityranking/plm/KernelWeights", "reach", "I", y3)] := by
  refine oApart.of (C := "com/example/term_proximity_ranking/termproximityranking/plm/KernelWeights") (a0 := a0) (fun f hf => ?_) (by show (["capacity", "mirrored", "sums", "reach"] : List String).Nodup; decide)
  · simp only [List.mem_cons, List.not_mem_nil, or_false] at hf
    rcases hf with rfl | rfl | rfl | rfl
    · exact ⟨Or.inr (hw _ (List.mem_of_getElem? (i := 33) rfl)), .int, (by decide : parseFieldDescriptor "I" = some .int)⟩
    · exact ⟨Or.inr (hw _ (List.mem_of_getElem? (i := 35) rfl)), (.array .double), (by decide : parseFieldDescriptor "[D" = some (.array .double))⟩
    · exact ⟨Or.inr (hw _ (List.mem_of_getElem? (i := 37) rfl)), (.array .double), (by decide : parseFieldDescriptor "[D" = some (.array .double))⟩
    · exact ⟨Or.inr (hw _ (List.mem_of_getElem? (i := 39) rfl)), .int, (by decide : parseFieldDescriptor "I" = some .int)⟩
theorem pd_3 : parseMethodDescriptor "(ID)D" = some ⟨[.int, .double], some .double⟩ := by decide +kernel
set_option maxRecDepth 65536 in
set_option maxHeartbeats 40000000 in
theorem own_init {l : Launch} {Z : State} {a0 : Array Value} {h0 : Heap} (hw : ∀ d ∈ tables_1, d.before a0 Z = true) {C : String} {a o : Addr} (hE : Exa Z h0 a C) (hsel : (Jvm.Cond.selects C ({ cls := "com/example/term_proximity_ranking/termproximityranking/plm/Kernel", name := "weight", desc := "(ID)D" } : Jvm.MethodName) ({ cls := "com/example/term_proximity_ranking/termproximityranking/plm/Kernel", name := "weight", desc := "(ID)D" } : Jvm.MethodName)).before a0 Z = true) {cap : Int32} {cN κ : Nat} {sg : UInt64} {G : Nat → Int} (hc : cap = Int32.ofNat cN) (hc1 : 1 ≤ cN ∧ cN ≤ 16) (hκ : κ ≤ 3) (hG : ∀ n, 0 ≤ G n ∧ G n ≤ 16) (hWt : ∀ (iI : Int32) (n : Nat), iI = Int32.ofNat n → n ≤ 15 → ∀ ds0 : oDs, oCtr l Z h0 [] (⟨"com/example/term_proximity_ranking/termproximityranking/plm/Kernel", "weight", "(ID)D"⟩ : MethodName) prog_36_method_6_code 4 (some .double) ({ frames := 1, cells := 0, slots := 0, locals := 30 } : Room) #[.ref a, .int iI, .double sg] ds0 (oVal fun w d => ∃ v : UInt64, w = .double v ∧ oQ (G n) κ v ∧ d = ds0)) :
    oCtr l Z h0 [] (⟨"com/example/term_proximity_ranking/termproximityranking/plm/KernelWeights", "<init>", "(Lcom/example/term_proximity_ranking/termproximityranking/plm/Kernel;DI)V"⟩ : MethodName) prog_42_method_1_code 13 none ({ frames := 2, cells := 2, slots := 47, locals := 60 } : Room) #[(.ref o), (.ref a), (.double sg), (.int cap)] [(o, .inr ("com/example/term_proximity_ranking/termproximityranking/plm/KernelWeights", [("com/example/term_proximity_ranking/termproximityranking/plm/KernelWeights", "capacity", "I", (.int (0 : Int32))), ("com/example/term_proximity_ranking/termproximityranking/plm/KernelWeights", "mirrored", "[D", .null), ("com/example/term_proximity_ranking/termproximityranking/plm/KernelWeights", "sums", "[D", .null), ("com/example/term_proximity_ranking/termproximityranking/plm/KernelWeights", "reach", "I", (.int (0 : Int32)))]))] (oVoid fun d => ∃ (b1 b2 : Addr) (mir sums : List Value) (rc : Int32), d = [(o, .inr ("com/example/term_proximity_ranking/termproximityranking/plm/KernelWeights", [("com/example/term_proximity_ranking/termproximityranking/plm/KernelWeights", "capacity", "I", (.int cap)), ("com/example/term_proximity_ranking/termproximityranking/plm/KernelWeights", "mirrored", "[D", (.ref b1)), ("com/example/term_proximity_ranking/termproximityranking/plm/KernelWeights", "sums", "[D", (.ref b2)), ("com/example/term_proximity_ranking/termproximityranking/plm/KernelWeights", "reach", "I", (.int rc))])), (b1, .inl (.double, mir)), (b2, .inl (.double, sums))] ∧ sums.length = cN ∧ (∀ j : Nat, j < cN → ∃ x, sums[j]? = some (.double x) ∧ oQ (oPre G (j + 1)) κ x)) := by
  refine oCtr.of (Ls := #[.val (.ref o), .val (.ref a), .val (.double sg), .second, .val (.int cap), .unset, .unset, .unset, .unset, .unset, .unset, .unset, .unset]) (plainFor_of_name (by first | (simp [plainName, overriddenIn]; done) | decide +kernel)) (fun m => by first | (simp [entryFrame, mkF, argsToLocals, Value.category]; done) | rfl) ?_
  intro p e s m below meth c K
  have tc := oNatI hc (by omega)
  refine oW.aloadN (pc' := 1) K d1_0 rfl rfl rfl ?_
  refine oW.initO (W := 0) (pc' := 4) K (hw _ (List.mem_of_getElem? (i := 10) rfl)) (hw _ (List.mem_of_getElem? (i := 11) rfl)) (hw _ (List.mem_of_getElem? (i := 12) rfl)) d1_1 rfl (by decide) (Nat.le_of_eq rfl) (by decide) rfl ?_
  refine oW.ldc2L (pc' := 7) K (hw _ (List.mem_of_getElem? (i := 13) rfl)) d1_4 rfl ?_
  refine oW.iload (pc' := 9) K d1_7 rfl rfl ?_
  obtain ⟨v9, ev9⟩ : ∃ t_ : Int64, t_ = cap.toInt64 := ⟨_, rfl⟩
  refine oW.i2l (pc' := 10) K d1_9 ev9 rfl ?_
  have tv9 : v9.toInt = _ := oI2L ev9
  obtain ⟨v10, ev10⟩ : ∃ t_ : Int64, t_ = (2 : Int64) * v9 := ⟨_, rfl⟩
  refine oW.lmul (pc' := 11) K d1_10 ev10 rfl ?_
  have tv10 := oLmul ev10 (by first | omega | (have oTs' := oTs; omega) | (simp only [Int32.reduceToInt, Int64.reduceToInt]; omega))
  try simp only [Int32.reduceToInt, Int64.reduceToInt] at tv10
  refine oW.lconst (v := (1 : Int64)) (pc' := 12) K d1_11 (by decide) rfl ?_
  obtain ⟨v12, ev12⟩ : ∃ t_ : Int64, t_ = v10 - (1 : Int64) := ⟨_, rfl⟩
  refine oW.lsub (pc' := 13) K d1_12 ev12 rfl ?_
  have tv12 := oLsub ev12 (by first | omega | (have oTs' := oTs; omega) | (simp only [Int32.reduceToInt, Int64.reduceToInt]; omega))
  try simp only [Int32.reduceToInt, Int64.reduceToInt] at tv12
  refine oW.callS (argsL := [(.long v12)]) (S := []) (rm := ({ frames := 0, cells := 0, slots := 0, locals := 0 } : Room)) (W := 0) (cells' := 0) (slots' := 0) (pc' := 16) K (hw _ (List.mem_of_getElem? (i := 14) rfl)) (hw _ (List.mem_of_getElem? (i := 15) rfl)) (hw _ (List.mem_of_getElem? (i := 16) rfl)) (hw _ (List.mem_of_getElem? (i := 17) rfl)) (by decide) (own_tie hw (by omega)) (lenOf pd_2 rfl) d1_13 rfl rfl (Nat.le_of_eq rfl) (by decide) (by decide) (by decide) (by decide) rfl rfl rfl ?_
  rintro _ _ ⟨mi, rfl, hmi, rfl⟩
  refine oW.newarrC (n := (2 * cN - 1)) (cap := 31) (cells' := 1) (slots' := 31) (dsf := fun z => [(o, .inr ("com/example/term_proximity_ranking/termproximityranking/plm/KernelWeights", [("com/example/term_proximity_ranking/termproximityranking/plm/KernelWeights", "capacity", "I", (.int (0 : Int32))), ("com/example/term_proximity_ranking/termproximityranking/plm/KernelWeights", "mirrored", "[D", .null), ("com/example/term_proximity_ranking/termproximityranking/plm/KernelWeights", "sums", "[D", .null), ("com/example/term_proximity_ranking/termproximityranking/plm/KernelWeights", "reach", "I", (.int (0 : Int32)))])), (z, .inl (.double, (List.replicate (2 * cN - 1) (.double (0 : UInt64)))))]) (pc' := 18) K (hw _ (List.mem_of_getElem? (i := 18) rfl)) d1_16 (oIdxN (by omega)) (by omega) (by omega) (by decide) (by decide) (by decide) rfl rfl (fun _ => rfl) rfl ?_
  intro a16 ha16
  refine oW.astore (Ls' := #[.val (.ref o), .val (.ref a), .val (.double sg), .second, .val (.int cap), .val (.ref a16), .unset, .unset, .unset, .unset, .unset, .unset, .unset]) (pc' := 20) K d1_18 rfl rfl rfl ?_
  refine oW.iload (pc' := 22) K d1_20 rfl rfl ?_
  refine oW.newarrC (n := cN) (cap := 16) (cells' := 2) (slots' := 47) (dsf := fun z => [(o, .inr ("com/example/term_proximity_ranking/termproximityranking/plm/KernelWeights", [("com/example/term_proximity_ranking/termproximityranking/plm/KernelWeights", "capacity", "I", (.int (0 : Int32))), ("com/example/term_proximity_ranking/termproximityranking/plm/KernelWeights", "mirrored", "[D", .null), ("com/example/term_proximity_ranking/termproximityranking/plm/KernelWeights", "sums", "[D", .null), ("com/example/term_proximity_ranking/termproximityranking/plm/KernelWeights", "reach", "I", (.int (0 : Int32)))])), (a16, .inl (.double, (List.replicate (2 * cN - 1) (.double (0 : UInt64))))), (z, .inl (.double, (List.replicate cN (.double (0 : UInt64)))))]) (pc' := 24) K (hw _ (List.mem_of_getElem? (i := 18) rfl)) d1_22 hc (by omega) (by omega) (by decide) (by decide) (by decide) rfl rfl (fun _ => rfl) rfl ?_
  intro a22 ha22
  refine oW.astore (Ls' := #[.val (.ref o), .val (.ref a), .val (.double sg), .second, .val (.int cap), .val (.ref a16), .val (.ref a22), .unset, .unset, .unset, .unset, .unset, .unset]) (pc' := 26) K d1_24 rfl rfl rfl ?_
  refine oW.dconst0 (pc' := 27) K d1_26 rfl ?_
  refine oW.dstore (Ls' := #[.val (.ref o), .val (.ref a), .val (.double sg), .second, .val (.int cap), .val (.ref a16), .val (.ref a22), .val (.double (0 : UInt64)), .second, .unset, .unset, .unset, .unset]) (pc' := 29) K d1_27 rfl rfl ?_
  refine oW.iconst (v := (0 : Int32)) (pc' := 30) K d1_29 (by decide) rfl ?_
  refine oW.istore (Ls' := #[.val (.ref o), .val (.ref a), .val (.double sg), .second, .val (.int cap), .val (.ref a16), .val (.ref a22), .val (.double (0 : UInt64)), .second, .val (.int (0 : Int32)), .unset, .unset, .unset]) (pc' := 32) K d1_30 rfl rfl ?_
  refine oW.iconst (v := (0 : Int32)) (pc' := 33) K d1_32 (by decide) rfl ?_
  refine oW.istore (Ls' := #[.val (.ref o), .val (.ref a), .val (.double sg), .second, .val (.int cap), .val (.ref a16), .val (.ref a22), .val (.double (0 : UInt64)), .second, .val (.int (0 : Int32)), .val (.int (0 : Int32)), .unset, .unset]) (pc' := 35) K d1_33 rfl rfl ?_
  refine oW.loop (F := fun z : UInt64 × Int32 × Int32 × Slot × Slot × List Value × List Value => 0 ≤ z.2.2.1.toInt ∧ z.2.2.1.toInt ≤ cN ∧ oQ (oPre G z.2.2.1.toInt.toNat) κ z.1 ∧ z.2.2.2.2.2.1.length = 2 * cN - 1 ∧ z.2.2.2.2.2.2.length = cN ∧ (∀ j : Nat, j < z.2.2.1.toInt.toNat → ∃ x, z.2.2.2.2.2.2[j]? = some (.double x) ∧ oQ (oPre G (j + 1)) κ x) ∧ oDead2 z.2.2.2.1 z.2.2.2.2.1) (mu := fun z => cN - z.2.2.1.toInt.toNat) (pcj := 35) (Lf := fun z => #[.val (.ref o), .val (.ref a), .val (.double sg), .second, .val (.int cap), .val (.ref a16), .val (.ref a22), .val (.double z.1), .second, .val (.int z.2.1), .val (.int z.2.2.1), z.2.2.2.1, z.2.2.2.2.1]) (Sf := fun z => []) (dsf := fun z => [(o, .inr ("com/example/term_proximity_ranking/termproximityranking/plm/KernelWeights", [("com/example/term_proximity_ranking/termproximityranking/plm/KernelWeights", "capacity", "I", (.int (0 : Int32))), ("com/example/term_proximity_ranking/termproximityranking/plm/KernelWeights", "mirrored", "[D", .null), ("com/example/term_proximity_ranking/termproximityranking/plm/KernelWeights", "sums", "[D", .null), ("com/example/term_proximity_ranking/termproximityranking/plm/KernelWeights", "reach", "I", (.int (0 : Int32)))])), (a16, .inl (.double, z.2.2.2.2.2.1)), (a22, .inl (.double, z.2.2.2.2.2.2))]) ?_ ((0 : UInt64), (0 : Int32), (0 : Int32), (.unset : Slot), (.unset : Slot), (List.replicate (2 * cN - 1) (.double (0 : UInt64))), (List.replicate cN (.double (0 : UInt64)))) (by dsimp only; exact ⟨by decide, by have := oTs; omega, by rw [show (0 : Int32).toInt.toNat = 0 by decide]; exact oQ0 κ, by simp, by simp, fun j h => absurd h (by have := oTs.1; omega), Or.inl ⟨rfl, rfl⟩⟩)
  rintro ⟨tot, rea, ii, s1, s2, mir, sum⟩ hF35 IH35
  dsimp only at hF35 IH35 ⊢
  obtain ⟨f1, f2, f3, f4, f5, f6, f7⟩ := hF35
  refine oW.iload (pc' := 37) K d1_35 rfl rfl ?_
  refine oW.iload (pc' := 39) K d1_37 rfl rfl ?_
  refine oW.icmp_ge (pc' := 106) (pc3 := 42) K d1_39 (by decide) (by decide) rfl (fun c39 => ?_) (fun c39 => ?_)
  · simp only [oLt32, oEq32, Int32.reduceToInt] at c39
    refine oW.aloadN (pc' := 107) K d1_106 rfl rfl rfl ?_
    refine oW.iload (pc' := 109) K d1_107 rfl rfl ?_
    refine oW.putf (i := 0) (q := 0) (ty := .int) (ds' := [(o, .inr ("com/example/term_proximity_ranking/termproximityranking/plm/KernelWeights", [("com/example/term_proximity_ranking/termproximityranking/plm/KernelWeights", "capacity", "I", (.int cap)), ("com/example/term_proximity_ranking/termproximityranking/plm/KernelWeights", "mirrored", "[D", .null), ("com/example/term_proximity_ranking/termproximityranking/plm/KernelWeights", "sums", "[D", .null), ("com/example/term_proximity_ranking/termproximityranking/plm/KernelWeights", "reach", "I", (.int (0 : Int32)))])), (a16, .inl (.double, mir)), (a22, .inl (.double, sum))]) (pc' := 112) K (hw _ (List.mem_of_getElem? (i := 32) rfl)) (Or.inr ⟨(hw _ (List.mem_of_getElem? (i := 33) rfl)), rfl, rfl⟩) (hw _ (List.mem_of_getElem? (i := 5) rfl)) (oAp_0 hw) d1_109 rfl rfl (by decide) rfl rfl rfl rfl ?_
    refine oW.aloadN (pc' := 113) K d1_112 rfl rfl rfl ?_
    refine oW.aload (pc' := 115) K d1_113 rfl rfl rfl ?_
    refine oW.putf (i := 0) (q := 1) (ty := (.array .double)) (ds' := [(o, .inr ("com/example/term_proximity_ranking/termproximityranking/plm/KernelWeights", [("com/example/term_proximity_ranking/termproximityranking/plm/KernelWeights", "capacity", "I", (.int cap)), ("com/example/term_proximity_ranking/termproximityranking/plm/KernelWeights", "mirrored", "[D", (.ref a16)), ("com/example/term_proximity_ranking/termproximityranking/plm/KernelWeights", "sums", "[D", .null), ("com/example/term_proximity_ranking/termproximityranking/plm/KernelWeights", "reach", "I", (.int (0 : Int32)))])), (a16, .inl (.double, mir)), (a22, .inl (.double, sum))]) (pc' := 118) K (hw _ (List.mem_of_getElem? (i := 34) rfl)) (Or.inr ⟨(hw _ (List.mem_of_getElem? (i := 35) rfl)), rfl, rfl⟩) (hw _ (List.mem_of_getElem? (i := 5) rfl)) (oAp_0 hw) d1_115 rfl rfl (by decide) rfl rfl rfl rfl ?_
    refine oW.aloadN (pc' := 119) K d1_118 rfl rfl rfl ?_
    refine oW.aload (pc' := 121) K d1_119 rfl rfl rfl ?_
    refine oW.putf (i := 0) (q := 2) (ty := (.array .double)) (ds' := [(o, .inr ("com/example/term_proximity_ranking/termproximityranking/plm/KernelWeights", [("com/example/term_proximity_ranking/termproximityranking/plm/KernelWeights", "capacity", "I", (.int cap)), ("com/example/term_proximity_ranking/termproximityranking/plm/KernelWeights", "mirrored", "[D", (.ref a16)), ("com/example/term_proximity_ranking/termproximityranking/plm/KernelWeights", "sums", "[D", (.ref a22)), ("com/example/term_proximity_ranking/termproximityranking/plm/KernelWeights", "reach", "I", (.int (0 : Int32)))])), (a16, .inl (.double, mir)), (a22, .inl (.double, sum))]) (pc' := 124) K (hw _ (List.mem_of_getElem? (i := 36) rfl)) (Or.inr ⟨(hw _ (List.mem_of_getElem? (i := 37) rfl)), rfl, rfl⟩) (hw _ (List.mem_of_getElem? (i := 5) rfl)) (oAp_0 hw) d1_121 rfl rfl (by decide) rfl rfl rfl rfl ?_
    refine oW.aloadN (pc' := 125) K d1_124 rfl rfl rfl ?_
    refine oW.iload (pc' := 127) K d1_125 rfl rfl ?_
    refine oW.putf (i := 0) (q := 3) (ty := .int) (ds' := [(o, .inr ("com/example/term_proximity_ranking/termproximityranking/plm/KernelWeights", [("com/example/term_proximity_ranking/termproximityranking/plm/KernelWeights", "capacity", "I", (.int cap)), ("com/example/term_proximity_ranking/termproximityranking/plm/KernelWeights", "mirrored", "[D", (.ref a16)), ("com/example/term_proximity_ranking/termproximityranking/plm/KernelWeights", "sums", "[D", (.ref a22)), ("com/example/term_proximity_ranking/termproximityranking/plm/KernelWeights", "reach", "I", (.int rea))])), (a16, .inl (.double, mir)), (a22, .inl (.double, sum))]) (pc' := 130) K (hw _ (List.mem_of_getElem? (i := 38) rfl)) (Or.inr ⟨(hw _ (List.mem_of_getElem? (i := 39) rfl)), rfl, rfl⟩) (hw _ (List.mem_of_getElem? (i := 5) rfl)) (oAp_0 hw) d1_127 rfl rfl (by decide) rfl rfl rfl rfl ?_
    exact oW.retV K rfl d1_130 (by decide) (by decide) ⟨rfl, _, _, _, _, _, rfl, f5, fun j hj => f6 j (by omega)⟩
  · simp only [oLt32, oEq32, Int32.reduceToInt] at c39
    refine oW.aloadN (pc' := 43) K d1_42 rfl rfl rfl ?_
    refine oW.iload (pc' := 45) K d1_43 rfl rfl ?_
    refine oW.dloadN (pc' := 46) K d1_45 rfl rfl ?_
    refine oW.callV (a := a) (argsL := [(.int ii), (.double sg)]) (S := []) (rm := ({ frames := 1, cells := 0, slots := 0, locals := 30 } : Room)) (W := 0) (cells' := 2) (slots' := 47) (pc' := 49) K (hw _ (List.mem_of_getElem? (i := 19) rfl)) (hw _ (List.mem_of_getElem? (i := 20) rfl)) hsel (hw _ (List.mem_of_getElem? (i := 21) rfl)) (hw _ (List.mem_of_getElem? (i := 23) rfl)) (hw _ (List.mem_of_getElem? (i := 2) rfl)) (by decide) (oNF hsel) (fun _ M => hE.ext M.1) (hWt ii ii.toInt.toNat (oIdx f1) (by omega) _) (lenOf pd_3 rfl) d1_46 rfl rfl (Nat.le_of_eq rfl) (by decide) (by decide) (by decide) (by decide) rfl rfl rfl ?_
    rintro _ _ ⟨wv, rfl, qw, rfl⟩
    refine oW.dstore (Ls' := #[.val (.ref o), .val (.ref a), .val (.double sg), .second, .val (.int cap), .val (.ref a16), .val (.ref a22), .val (.double tot), .second, .val (.int rea), .val (.int ii), .val (.double wv), .second]) (pc' := 51) K d1_49 (by rcases f7 with ⟨rfl, rfl⟩ | ⟨_, rfl, rfl⟩ <;> rfl) rfl ?_
    refine oW.aload (pc' := 53) K d1_51 rfl rfl rfl ?_
    refine oW.iload (pc' := 55) K d1_53 rfl rfl ?_
    refine oW.iconst (v := (1 : Int32)) (pc' := 56) K d1_55 (by decide) rfl ?_
    obtain ⟨v56, ev56⟩ : ∃ t_ : Int32, t_ = cap - (1 : Int32) := ⟨_, rfl⟩
    refine oW.isub (pc' := 57) K d1_56 ev56 rfl ?_
    have tv56 := oIsub ev56 (by first | omega | (have oTs' := oTs; omega) | (simp only [Int32.reduceToInt, Int64.reduceToInt]; omega))
    try simp only [Int32.reduceToInt, Int64.reduceToInt] at tv56
    refine oW.iload (pc' := 59) K d1_57 rfl rfl ?_
    obtain ⟨v59, ev59⟩ : ∃ t_ : Int32, t_ = v56 + ii := ⟨_, rfl⟩
    refine oW.iadd (pc' := 60) K d1_59 ev59 rfl ?_
    have tv59 := oIadd ev59 (by first | omega | (have oTs' := oTs; omega) | (simp only [Int32.reduceToInt, Int64.reduceToInt]; omega))
    try simp only [Int32.reduceToInt, Int64.reduceToInt] at tv59
    refine oW.dload (pc' := 62) K d1_60 rfl rfl ?_
    refine oW.dastore (i := 1) (k := v59.toInt.toNat) (ds' := [(o, .inr ("com/example/term_proximity_ranking/termproximityranking/plm/KernelWeights", [("com/example/term_proximity_ranking/termproximityranking/plm/KernelWeights", "capacity", "I", (.int (0 : Int32))), ("com/example/term_proximity_ranking/termproximityranking/plm/KernelWeights", "mirrored", "[D", .null), ("com/example/term_proximity_ranking/termproximityranking/plm/KernelWeights", "sums", "[D", .null), ("com/example/term_proximity_ranking/termproximityranking/plm/KernelWeights", "reach", "I", (.int (0 : Int32)))])), (a16, .inl (.double, (mir.set v59.toInt.toNat (.double wv)))), (a22, .inl (.double, sum))]) (pc' := 63) K d1_62 rfl (oIdx (by omega)) (by omega) (by rw [f4]; omega) rfl rfl ?_
    refine oW.aload (pc' := 65) K d1_63 rfl rfl rfl ?_
    refine oW.iload (pc' := 67) K d1_65 rfl rfl ?_
    refine oW.iconst (v := (1 : Int32)) (pc' := 68) K d1_67 (by decide) rfl ?_
    obtain ⟨v68, ev68⟩ : ∃ t_ : Int32, t_ = cap - (1 : Int32) := ⟨_, rfl⟩
    refine oW.isub (pc' := 69) K d1_68 ev68 rfl ?_
    have tv68 := oIsub ev68 (by first | omega | (have oTs' := oTs; omega) | (simp only [Int32.reduceToInt, Int64.reduceToInt]; omega))
    try simp only [Int32.reduceToInt, Int64.reduceToInt] at tv68
    refine oW.iload (pc' := 71) K d1_69 rfl rfl ?_
    obtain ⟨v71, ev71⟩ : ∃ t_ : Int32, t_ = v68 - ii := ⟨_, rfl⟩
    refine oW.isub (pc' := 72) K d1_71 ev71 rfl ?_
    have tv71 := oIsub ev71 (by first | omega | (have oTs' := oTs; omega) | (simp only [Int32.reduceToInt, Int64.reduceToInt]; omega))
    try simp only [Int32.reduceToInt, Int64.reduceToInt] at tv71
    refine oW.dload (pc' := 74) K d1_72 rfl rfl ?_
    refine oW.dastore (i := 1) (k := v71.toInt.toNat) (ds' := [(o, .inr ("com/example/term_proximity_ranking/termproximityranking/plm/KernelWeights", [("com/example/term_proximity_ranking/termproximityranking/plm/KernelWeights", "capacity", "I", (.int (0 : Int32))), ("com/example/term_proximity_ranking/termproximityranking/plm/KernelWeights", "mirrored", "[D", .null), ("com/example/term_proximity_ranking/termproximityranking/plm/KernelWeights", "sums", "[D", .null), ("com/example/term_proximity_ranking/termproximityranking/plm/KernelWeights", "reach", "I", (.int (0 : Int32)))])), (a16, .inl (.double, ((mir.set v59.toInt.toNat (.double wv)).set v71.toInt.toNat (.double wv)))), (a22, .inl (.double, sum))]) (pc' := 75) K d1_74 rfl (oIdx (by omega)) (by omega) (by rw [List.length_set, f4]; omega) rfl rfl ?_
    refine oW.dload (pc' := 77) K d1_75 rfl rfl ?_
    refine oW.dload (pc' := 79) K d1_77 rfl rfl ?_
    obtain ⟨v79, ev79⟩ : ∃ t_ : UInt64, t_ = FP.dadd tot wv := ⟨_, rfl⟩
    have b1 := oPre_b hG ii.toInt.toNat
    have b2 := hG ii.toInt.toNat
    have qv79 : oQ (oPre G ii.toInt.toNat + G ii.toInt.toNat) κ v79 := f3.add qw ev79 (by omega) (by omega)
    refine oW.dadd (pc' := 80) K d1_79 ev79 (qv79.nn) rfl ?_
    refine oW.dstore (Ls' := #[.val (.ref o), .val (.ref a), .val (.double sg), .second, .val (.int cap), .val (.ref a16), .val (.ref a22), .val (.double v79), .second, .val (.int rea), .val (.int ii), .val (.double wv), .second]) (pc' := 82) K d1_80 rfl rfl ?_
    refine oW.aload (pc' := 84) K d1_82 rfl rfl rfl ?_
    refine oW.iload (pc' := 86) K d1_84 rfl rfl ?_
    refine oW.dload (pc' := 88) K d1_86 rfl rfl ?_
    refine oW.dastore (i := 2) (k := ii.toInt.toNat) (ds' := [(o, .inr ("com/example/term_proximity_ranking/termproximityranking/plm/KernelWeights", [("com/example/term_proximity_ranking/termproximityranking/plm/KernelWeights", "capacity", "I", (.int (0 : Int32))), ("com/example/term_proximity_ranking/termproximityranking/plm/KernelWeights", "mirrored", "[D", .null), ("com/example/term_proximity_ranking/termproximityranking/plm/KernelWeights", "sums", "[D", .null), ("com/example/term_proximity_ranking/termproximityranking/plm/KernelWeights", "reach", "I", (.int (0 : Int32)))])), (a16, .inl (.double, ((mir.set v59.toInt.toNat (.double wv)).set v71.toInt.toNat (.double wv)))), (a22, .inl (.double, (sum.set ii.toInt.toNat (.double v79))))]) (pc' := 89) K d1_88 rfl (oIdx (by omega)) (by omega) (by rw [f5]; omega) rfl rfl ?_
    refine oW.dload (pc' := 91) K d1_89 rfl rfl ?_
    refine oW.dconst0 (pc' := 92) K d1_91 rfl ?_
    obtain ⟨v92, ev92⟩ : ∃ t_ : Int32, t_ = cmpValue (FP.dcmp wv (0 : UInt64)) .l := ⟨_, rfl⟩
    refine oW.dcmp (pc' := 93) K d1_92 ev92 rfl ?_
    refine oW.if_eq (pc' := 100) (pc3 := 96) K d1_93 (by decide) (by decide) rfl (fun c93 => ?_) (fun c93 => ?_)
    · obtain ⟨v100, ev100⟩ : ∃ t_ : Int32, t_ = ii + Int32.ofInt 1 := ⟨_, rfl⟩
      refine oW.iinc (Ls' := #[.val (.ref o), .val (.ref a), .val (.double sg), .second, .val (.int cap), .val (.ref a16), .val (.ref a22), .val (.double v79), .second, .val (.int rea), .val (.int v100), .val (.double wv), .second]) (pc' := 103) K d1_100 rfl ev100 rfl rfl ?_
      have tv100 := oInc1 ev100 (by omega)
      have hidx : v100.toInt.toNat = ii.toInt.toNat + 1 := by omega
      refine oW.goto (pc' := 35) K d1_103 (by decide) (by decide) ?_
      exact IH35 (v79, rea, v100, (.val (.double wv) : Slot), (.second : Slot), ((mir.set v59.toInt.toNat (.double wv)).set v71.toInt.toNat (.double wv)), (sum.set ii.toInt.toNat (.double v79))) (by dsimp only; exact ⟨by omega, by omega, by rw [hidx]; exact qv79, by rw [List.length_set, List.length_set]; exact f4, by rw [List.length_set]; exact f5, by rw [hidx]; exact oSetStep (Q := fun j => oPre G (j + 1)) f6 (by rw [f5]; omega) qv79, Or.inr ⟨_, rfl, rfl⟩⟩) (by dsimp only; omega)
    · refine oW.iload (pc' := 98) K d1_96 rfl rfl ?_
      refine oW.istore (Ls' := #[.val (.ref o), .val (.ref a), .val (.double sg), .second, .val (.int cap), .val (.ref a16), .val (.ref a22), .val (.double v79), .second, .val (.int ii), .val (.int ii), .val (.double wv), .second]) (pc' := 100) K d1_98 rfl rfl ?_
      obtain ⟨v100, ev100⟩ : ∃ t_ : Int32, t_ = ii + Int32.ofInt 1 := ⟨_, rfl⟩
      refine oW.iinc (Ls' := #[.val (.ref o), .val (.ref a), .val (.double sg), .second, .val (.int cap), .val (.ref a16), .val (.ref a22), .val (.double v79), .second, .val (.int ii), .val (.int v100), .val (.double wv), .second]) (pc' := 103) K d1_100 rfl ev100 rfl rfl ?_
      have tv100 := oInc1 ev100 (by omega)
      have hidx : v100.toInt.toNat = ii.toInt.toNat + 1 := by omega
      refine oW.goto (pc' := 35) K d1_103 (by decide) (by decide) ?_
      exact IH35 (v79, ii, v100, (.val (.double wv) : Slot), (.second : Slot), ((mir.set v59.toInt.toNat (.double wv)).set v71.toInt.toNat (.double wv)), (sum.set ii.toInt.toNat (.double v79))) (by dsimp only; exact ⟨by omega, by omega, by rw [hidx]; exact qv79, by rw [List.length_set, List.length_set]; exact f4, by rw [List.length_set]; exact f5, by rw [hidx]; exact oSetStep (Q := fun j => oPre G (j + 1)) f6 (by rw [f5]; omega) qv79, Or.inr ⟨_, rfl, rfl⟩⟩) (by dsimp only; omega)
theorem d6_0 : decode prog_42_method_4_code 0 = .ok (.iload_n 1, 1) := by decide +kernel
theorem d6_1 : decode prog_42_method_4_code 1 = .ok (.newarray .double, 2) := by decide +kernel
theorem d6_3 : decode prog_42_method_4_code 3 = .ok (.astore_n 2, 1) := by decide +kernel
theorem d6_4 : decode prog_42_method_4_code 4 = .ok (.iconst 1, 1) := by decide +kernel
theorem d6_5 : decode prog_42_method_4_code 5 = .ok (.istore_n 3, 1) := by decide +kernel
theorem d6_6 : decode prog_42_method_4_code 6 = .ok (.iload_n 3, 1) := by decide +kernel
theorem d6_7 : decode prog_42_method_4_code 7 = .ok (.iload_n 1, 1) := by decide +kernel
theorem d6_8 : decode prog_42_method_4_code 8 = .ok (.if_icmp .gt 38, 3) := by decide +kernel
theorem d6_11 : decode prog_42_method_4_code 11 = .ok (.aload_n 2, 1) := by decide +kernel
theorem d6_12 : decode prog_42_method_4_code 12 = .ok (.iload_n 3, 1) := by decide +kernel
theorem d6_13 : decode prog_42_method_4_code 13 = .ok (.iconst 1, 1) := by decide +kernel
theorem d6_14 : decode prog_42_method_4_code 14 = .ok (.isub, 1) := by decide +kernel
theorem d6_15 : decode prog_42_method_4_code 15 = .ok (.aload_n 0, 1) := by decide +kernel
theorem d6_16 : decode prog_42_method_4_code 16 = .ok (.getfield 31, 3) := by decide +kernel
theorem d6_19 : decode prog_42_method_4_code 19 = .ok (.iload_n 3, 1) := by decide +kernel
theorem d6_20 : decode prog_42_method_4_code 20 = .ok (.iconst 1, 1) := by decide +kernel
theorem d6_21 : decode prog_42_method_4_code 21 = .ok (.isub, 1) := by decide +kernel
theorem d6_22 : decode prog_42_method_4_code 22 = .ok (.daload, 1) := by decide +kernel
theorem d6_23 : decode prog_42_method_4_code 23 = .ok (.aload_n 0, 1) := by decide +kernel
theorem d6_24 : decode prog_42_method_4_code 24 = .ok (.getfield 31, 3) := by decide +kernel
theorem d6_27 : decode prog_42_method_4_code 27 = .ok (.iload_n 1, 1) := by decide +kernel
theorem d6_28 : decode prog_42_method_4_code 28 = .ok (.iload_n 3, 1) := by decide +kernel
theorem d6_29 : decode prog_42_method_4_code 29 = .ok (.isub, 1) := by decide +kernel
theorem d6_30 : decode prog_42_method_4_code 30 = .ok (.daload, 1) := by decide +kernel
theorem d6_31 : decode prog_42_method_4_code 31 = .ok (.dadd, 1) := by decide +kernel
theorem d6_32 : decode prog_42_method_4_code 32 = .ok (.aload_n 0, 1) := by decide +kernel
theorem d6_33 : decode prog_42_method_4_code 33 = .ok (.getfield 31, 3) := by decide +kernel
theorem d6_36 : decode prog_42_method_4_code 36 = .ok (.iconst 0, 1) := by decide +kernel
theorem d6_37 : decode prog_42_method_4_code 37 = .ok (.daload, 1) := by decide +kernel
theorem d6_38 : decode prog_42_method_4_code 38 = .ok (.dsub, 1) := by decide +kernel
theorem d6_39 : decode prog_42_method_4_code 39 = .ok (.dastore, 1) := by decide +kernel
theorem d6_40 : decode prog_42_method_4_code 40 = .ok (.iinc 3 1, 3) := by decide +kernel
theorem d6_43 : decode prog_42_method_4_code 43 = .ok (.goto (-37), 3) := by decide +kernel
theorem d6_46 : decode prog_42_method_4_code 46 = .ok (.aload_n 2, 1) := by decide +kernel
theorem d6_47 : decode prog_42_method_4_code 47 = .ok (.areturn, 1) := by decide +kernel
set_option maxRecDepth 65536 in
set_option maxHeartbeats 40000000 in
theorem own_pos {l : Launch} {Z : State} {a0 : Array Value} {h0 : Heap} (hw : ∀ d ∈ tables_1, d.before a0 Z = true) {o b1 b2 : Addr} {cap rc ln : Int32} {mir sums : List Value} {cN lN κ : Nat} {G : Nat → Int} (hκ : κ ≤ 3) (hG : ∀ n, 0 ≤ G n ∧ G n ≤ 16) (hl : ln = Int32.ofNat lN) (hl1 : 1 ≤ lN ∧ lN ≤ cN) (hcN : cN ≤ 16) (hs : (∀ j : Nat, j < cN → ∃ x, sums[j]? = some (.double x) ∧ oQ (oPre G (j + 1)) κ x)) :
    oCtr l Z h0 [] (⟨"com/example/term_proximity_ranking/termproximityranking/plm/KernelWeights", "positionLengths", "(I)[D"⟩ : MethodName) prog_42_method_4_code 4 (some (.array .double)) ({ frames := 0, cells := 1, slots := 16, locals := 0 } : Room) #[(.ref o), (.int ln)] [(o, .inr ("com/example/term_proximity_ranking/termproximityranking/plm/KernelWeights", [("com/example/term_proximity_ranking/termproximityranking/plm/KernelWeights", "capacity", "I", (.int cap)), ("com/example/term_proximity_ranking/termproximityranking/plm/KernelWeights", "mirrored", "[D", (.ref b1)), ("com/example/term_proximity_ranking/termproximityranking/plm/KernelWeights", "sums", "[D", (.ref b2)), ("com/example/term_proximity_ranking/termproximityranking/plm/KernelWeights", "reach", "I", (.int rc))])), (b1, .inl (.double, mir)), (b2, .inl (.double, sums))] (oVal fun w d => ∃ (b3 : Addr) (vs : List Value), w = .ref b3 ∧ d = [(o, .inr ("com/example/term_proximity_ranking/termproximityranking/plm/KernelWeights", [("com/example/term_proximity_ranking/termproximityranking/plm/KernelWeights", "capacity", "I", (.int cap)), ("com/example/term_proximity_ranking/termproximityranking/plm/KernelWeights", "mirrored", "[D", (.ref b1)), ("com/example/term_proximity_ranking/termproximityranking/plm/KernelWeights", "sums", "[D", (.ref b2)), ("com/example/term_proximity_ranking/termproximityranking/plm/KernelWeights", "reach", "I", (.int rc))])), (b1, .inl (.double, mir)), (b2, .inl (.double, sums)), (b3, .inl (.double, vs))] ∧ vs.length = lN ∧ (∀ j : Nat, j < lN → ∃ x, vs[j]? = some (.double x) ∧ oQ (oPre G (j + 1) + oPre G (lN - j) - oPre G (0 + 1)) κ x)) := by
  refine oCtr.of (Ls := #[.val (.ref o), .val (.int ln), .unset, .unset]) (plainFor_of_name (by first | (simp [plainName, overriddenIn]; done) | decide +kernel)) (fun m => by first | (simp [entryFrame, mkF, argsToLocals, Value.category]; done) | rfl) ?_
  intro p e s m below meth c K
  have tl := oNatI hl (by omega)
  refine oW.iloadN (pc' := 1) K d6_0 rfl rfl ?_
  refine oW.newarrC (n := lN) (cap := 16) (cells' := 1) (slots' := 16) (dsf := fun z => [(o, .inr ("com/example/term_proximity_ranking/termproximityranking/plm/KernelWeights", [("com/example/term_proximity_ranking/termproximityranking/plm/KernelWeights", "capacity", "I", (.int cap)), ("com/example/term_proximity_ranking/termproximityranking/plm/KernelWeights", "mirrored", "[D", (.ref b1)), ("com/example/term_proximity_ranking/termproximityranking/plm/KernelWeights", "sums", "[D", (.ref b2)), ("com/example/term_proximity_ranking/termproximityranking/plm/KernelWeights", "reach", "I", (.int rc))])), (b1, .inl (.double, mir)), (b2, .inl (.double, sums)), (z, .inl (.double, (List.replicate lN (.double (0 : UInt64)))))]) (pc' := 3) K (hw _ (List.mem_of_getElem? (i := 18) rfl)) d6_1 hl (by omega) (by omega) (by decide) (by decide) (by decide) rfl rfl (fun _ => rfl) rfl ?_
  intro a1 ha1
  refine oW.astoreN (Ls' := #[.val (.ref o), .val (.int ln), .val (.ref a1), .unset]) (pc' := 4) K d6_3 rfl rfl rfl ?_
  refine oW.iconst (v := (1 : Int32)) (pc' := 5) K d6_4 (by decide) rfl ?_
  refine oW.istoreN (Ls' := #[.val (.ref o), .val (.int ln), .val (.ref a1), .val (.int (1 : Int32))]) (pc' := 6) K d6_5 rfl rfl ?_
  refine oW.loop (F := fun z : Int32 × List Value => 1 ≤ z.1.toInt ∧ z.1.toInt ≤ lN + 1 ∧ z.2.length = lN ∧ (∀ j : Nat, j < (z.1.toInt - 1).toNat → ∃ x, z.2[j]? = some (.double x) ∧ oQ (oPre G (j + 1) + oPre G (lN - j) - oPre G (0 + 1)) κ x)) (mu := fun z => lN + 1 - z.1.toInt.toNat) (pcj := 6) (Lf := fun z => #[.val (.ref o), .val (.int ln), .val (.ref a1), .val (.int z.1)]) (Sf := fun z => []) (dsf := fun z => [(o, .inr ("com/example/term_proximity_ranking/termproximityranking/plm/KernelWeights", [("com/example/term_proximity_ranking/termproximityranking/plm/KernelWeights", "capacity", "I", (.int cap)), ("com/example/term_proximity_ranking/termproximityranking/plm/KernelWeights", "mirrored", "[D", (.ref b1)), ("com/example/term_proximity_ranking/termproximityranking/plm/KernelWeights", "sums", "[D", (.ref b2)), ("com/example/term_proximity_ranking/termproximityranking/plm/KernelWeights", "reach", "I", (.int rc))])), (b1, .inl (.double, mir)), (b2, .inl (.double, sums)), (a1, .inl (.double, z.2))]) ?_ ((1 : Int32), (List.replicate lN (.double (0 : UInt64)))) (by dsimp only; exact ⟨by decide, by have := oTs; omega, by simp, fun j h => absurd h (by have := oTs.2.1; omega)⟩)
  rintro ⟨po, ou⟩ hF6 IH6
  dsimp only at hF6 IH6 ⊢
  obtain ⟨f1, f2, f3, f4⟩ := hF6
  refine oW.iloadN (pc' := 7) K d6_6 rfl rfl ?_
  refine oW.iloadN (pc' := 8) K d6_7 rfl rfl ?_
  refine oW.icmp_gt (pc' := 46) (pc3 := 11) K d6_8 (by decide) (by decide) rfl (fun c8 => ?_) (fun c8 => ?_)
  · simp only [oLt32, oEq32, Int32.reduceToInt] at c8
    refine oW.aloadN (pc' := 47) K d6_46 rfl rfl rfl ?_
    exact oW.retA K rfl rfl rfl d6_47 (by decide) (by decide) ⟨_, rfl, _, _, rfl, rfl, f3, fun j hj => f4 j (by omega)⟩
  · simp only [oLt32, oEq32, Int32.reduceToInt] at c8
    refine oW.aloadN (pc' := 12) K d6_11 rfl rfl rfl ?_
    refine oW.iloadN (pc' := 13) K d6_12 rfl rfl ?_
    refine oW.iconst (v := (1 : Int32)) (pc' := 14) K d6_13 (by decide) rfl ?_
    obtain ⟨v14, ev14⟩ : ∃ t_ : Int32, t_ = po - (1 : Int32) := ⟨_, rfl⟩
    refine oW.isub (pc' := 15) K d6_14 ev14 rfl ?_
    have tv14 := oIsub ev14 (by first | omega | (have oTs' := oTs; omega) | (simp only [Int32.reduceToInt, Int64.reduceToInt]; omega))
    try simp only [Int32.reduceToInt, Int64.reduceToInt] at tv14
    refine oW.aloadN (pc' := 16) K d6_15 rfl rfl rfl ?_
    refine oW.getf (i := 0) (q := 2) (pc' := 19) K (hw _ (List.mem_of_getElem? (i := 36) rfl)) d6_16 rfl rfl rfl ?_
    refine oW.iloadN (pc' := 20) K d6_19 rfl rfl ?_
    refine oW.iconst (v := (1 : Int32)) (pc' := 21) K d6_20 (by decide) rfl ?_
    obtain ⟨v21, ev21⟩ : ∃ t_ : Int32, t_ = po - (1 : Int32) := ⟨_, rfl⟩
    refine oW.isub (pc' := 22) K d6_21 ev21 rfl ?_
    have tv21 := oIsub ev21 (by first | omega | (have oTs' := oTs; omega) | (simp only [Int32.reduceToInt, Int64.reduceToInt]; omega))
    try simp only [Int32.reduceToInt, Int64.reduceToInt] at tv21
    obtain ⟨x22, g22, q22⟩ := hs v21.toInt.toNat (by omega)
    have b22 := oPre_b hG (v21.toInt.toNat + 1)
    refine oW.daload (i := 2) (k := v21.toInt.toNat) (pc' := 23) K d6_22 rfl (oIdx (by omega)) (by omega) g22 rfl ?_
    refine oW.aloadN (pc' := 24) K d6_23 rfl rfl rfl ?_
    refine oW.getf (i := 0) (q := 2) (pc' := 27) K (hw _ (List.mem_of_getElem? (i := 36) rfl)) d6_24 rfl rfl rfl ?_
    refine oW.iloadN (pc' := 28) K d6_27 rfl rfl ?_
    refine oW.iloadN (pc' := 29) K d6_28 rfl rfl ?_
    obtain ⟨v29, ev29⟩ : ∃ t_ : Int32, t_ = ln - po := ⟨_, rfl⟩
    refine oW.isub (pc' := 30) K d6_29 ev29 rfl ?_
    have tv29 := oIsub ev29 (by first | omega | (have oTs' := oTs; omega) | (simp only [Int32.reduceToInt, Int64.reduceToInt]; omega))
    try simp only [Int32.reduceToInt, Int64.reduceToInt] at tv29
    obtain ⟨x30, g30, q30⟩ := hs v29.toInt.toNat (by omega)
    have b30 := oPre_b hG (v29.toInt.toNat + 1)
    refine oW.daload (i := 2) (k := v29.toInt.toNat) (pc' := 31) K d6_30 rfl (oIdx (by omega)) (by omega) g30 rfl ?_
    obtain ⟨v31, ev31⟩ : ∃ t_ : UInt64, t_ = FP.dadd x22 x30 := ⟨_, rfl⟩
    have q31 := q22.add q30 ev31 (by omega) (by omega)
    refine oW.dadd (pc' := 32) K d6_31 ev31 (q31.nn) rfl ?_
    refine oW.aloadN (pc' := 33) K d6_32 rfl rfl rfl ?_
    refine oW.getf (i := 0) (q := 2) (pc' := 36) K (hw _ (List.mem_of_getElem? (i := 36) rfl)) d6_33 rfl rfl rfl ?_
    refine oW.iconst (v := (0 : Int32)) (pc' := 37) K d6_36 (by decide) rfl ?_
    obtain ⟨x37, g37, q37⟩ := hs 0 (by omega)
    have b37 := oPre_b hG (0 + 1)
    refine oW.daload (i := 2) (k := 0) (pc' := 38) K d6_37 rfl (by decide) (by omega) g37 rfl ?_
    obtain ⟨v38, ev38⟩ : ∃ t_ : UInt64, t_ = FP.dsub v31 x37 := ⟨_, rfl⟩
    have q38 := q31.sub q37 ev38 (by omega) (by omega)
    refine oW.dsub (pc' := 39) K d6_38 ev38 (q38.nn) rfl ?_
    refine oW.dastore (i := 3) (k := v14.toInt.toNat) (ds' := [(o, .inr ("com/example/term_proximity_ranking/termproximityranking/plm/KernelWeights", [("com/example/term_proximity_ranking/termproximityranking/plm/KernelWeights", "capacity", "I", (.int cap)), ("com/example/term_proximity_ranking/termproximityranking/plm/KernelWeights", "mirrored", "[D", (.ref b1)), ("com/example/term_proximity_ranking/termproximityranking/plm/KernelWeights", "sums", "[D", (.ref b2)), ("com/example/term_proximity_ranking/termproximityranking/plm/KernelWeights", "reach", "I", (.int rc))])), (b1, .inl (.double, mir)), (b2, .inl (.double, sums)), (a1, .inl (.double, (ou.set v14.toInt.toNat (.double v38))))]) (pc' := 40) K d6_39 rfl (oIdx (by omega)) (by omega) (by rw [f3]; omega) rfl rfl ?_
    obtain ⟨v40, ev40⟩ : ∃ t_ : Int32, t_ = po + Int32.ofInt 1 := ⟨_, rfl⟩
    refine oW.iinc (Ls' := #[.val (.ref o), .val (.int ln), .val (.ref a1), .val (.int v40)]) (pc' := 43) K d6_40 rfl ev40 rfl rfl ?_
    have tv40 := oInc1 ev40 (by omega)
    have hidx : (v40.toInt - 1).toNat = v14.toInt.toNat + 1 := by omega
    have q38' : oQ (oPre G (v14.toInt.toNat + 1) + oPre G (lN - v14.toInt.toNat) - oPre G (0 + 1)) κ v38 := q38.cast rfl (by rw [show v21.toInt.toNat = v14.toInt.toNat by omega, show v29.toInt.toNat + 1 = lN - v14.toInt.toNat by omega])
    refine oW.goto (pc' := 6) K d6_43 (by decide) (by decide) ?_
    exact IH6 (v40, (ou.set v14.toInt.toNat (.double v38))) (by dsimp only; exact ⟨by omega, by omega, by rw [List.length_set]; exact f3, by rw [hidx]; exact oSetStep (Q := fun j => oPre G (j + 1) + oPre G (lN - j) - oPre G (0 + 1)) (fun j h => f4 j (by omega)) (by rw [f3]; omega) q38'⟩) (by dsimp only; omega)
theorem pd_4 : parseMethodDescriptor "(Lcom/example/term_proximity_ranking/termproximityranking/plm/Kernel;DI)V" = some ⟨[(.object "com/example/term_proximity_ranking/termproximityranking/plm/Kernel"), .double, .int], none⟩ := by decide +kernel
theorem pd_5 : parseMethodDescriptor "(I)[D" = some ⟨[.int], some (.array .double)⟩ := by decide +kernel
theorem pd_6 : parseMethodDescriptor "(ZII)D" = some ⟨[.boolean, .int, .int], some .double⟩ := by decide +kernel
set_option maxRecDepth 65536 in
set_option maxHeartbeats 40000000 in
theorem own_law {l : Launch} {Z : State} {a0 : Array Value} {h0 : Heap} (hw : ∀ d ∈ tables_1, d.before a0 Z = true) {ka : Addr} (hSa : Sta Z h0 "com/example/term_proximity_ranking/termproximityranking/plm/Kernel" "PASSAGE" "Lcom/example/term_proximity_ranking/termproximityranking/plm/Kernel;" (.ref ka)) (hEa : Exa Z h0 ka "com/example/term_proximity_ranking/termproximityranking/plm/Kernel$5") (hFa : Fld Z h0 ka "com/example/term_proximity_ranking/termproximityranking/plm/Kernel" "bounded" "Z" (.int 1)) {kb : Addr} (hSb : Sta Z h0 "com/example/term_proximity_ranking/termproximityranking/plm/Kernel" "TRIANGLE" "Lcom/example/term_proximity_ranking/termproximityranking/plm/Kernel;" (.ref kb)) (hEb : Exa Z h0 kb "com/example/term_proximity_ranking/termproximityranking/plm/Kernel$2") (hFb : Fld Z h0 kb "com/example/term_proximity_ranking/termproximityranking/plm/Kernel" "bounded" "Z" (.int 1)) (p0 : Int32) (p1 : Int32) (p2 : Int32) (p3 : Int32) (p4 : Int32) :
    oCtr l Z h0 tables_1 x code maxLocals ret room_1 #[(.int p0), (.int p1), (.int p2), (.int p3), (.int p4)] [] (oVal fun w _ => w = .int 1) := by
  refine oCtr.of (Ls := #[.val (.int p0), .val (.int p1), .val (.int p2), .val (.int p3), .val (.int p4), .unset, .unset, .unset, .unset, .unset, .unset, .unset, .unset, .unset, .unset]) (plainFor_of_name (by first | (simp [plainName, overriddenIn]; done) | decide +kernel)) (fun m => by first | (simp [entryFrame, mkF, argsToLocals, Value.category, maxLocals]; done) | rfl) ?_
  intro p e s m below meth c K
  refine oW.iloadN (pc' := 1) K at_0 rfl rfl ?_
  refine oW.bipush (v := (15 : Int32)) (pc' := 3) K at_1 (by decide) rfl ?_
  obtain ⟨v3, ev3⟩ : ∃ t_ : Int32, t_ = p2 &&& (15 : Int32) := ⟨_, rfl⟩
  refine oW.iand (pc' := 4) K at_3 ev3 rfl ?_
  have tv3 := oMaskR 15 (by decide) ev3
  refine oW.iconst (v := (1 : Int32)) (pc' := 5) K at_4 (by decide) rfl ?_
  obtain ⟨v5, ev5⟩ : ∃ t_ : Int32, t_ = v3 + (1 : Int32) := ⟨_, rfl⟩
  refine oW.iadd (pc' := 6) K at_5 ev5 rfl ?_
  have tv5 := oIadd ev5 (by first | omega | (have oTs' := oTs; omega) | (simp only [Int32.reduceToInt, Int64.reduceToInt]; omega))
  try simp only [Int32.reduceToInt, Int64.reduceToInt] at tv5
  refine oW.istore (Ls' := #[.val (.int p0), .val (.int p1), .val (.int p2), .val (.int p3), .val (.int p4), .val (.int v5), .unset, .unset, .unset, .unset, .unset, .unset, .unset, .unset, .unset]) (pc' := 8) K at_6 rfl rfl ?_
  refine oW.iloadN (pc' := 9) K at_8 rfl rfl ?_
  refine oW.ldcI (pc' := 11) K (hw _ (List.mem_of_getElem? (i := 0) rfl)) at_9 rfl ?_
  obtain ⟨v11, ev11⟩ : ∃ t_ : Int32, t_ = p3 &&& (2147483647 : Int32) := ⟨_, rfl⟩
  refine oW.iand (pc' := 12) K at_11 ev11 rfl ?_
  have tv11 := oMaskR 2147483647 (by decide) ev11
  refine oW.iload (pc' := 14) K at_12 rfl rfl ?_
  obtain ⟨v14, ev14⟩ : ∃ t_ : Int32, t_ = v11 % v5 := ⟨_, rfl⟩
  refine oW.irem (pc' := 15) K at_14 (oNe0 (by omega)) ev14 rfl ?_
  have tv14 := oRemB ev14 (by omega) (by omega)
  refine oW.iconst (v := (1 : Int32)) (pc' := 16) K at_15 (by decide) rfl ?_
  obtain ⟨v16, ev16⟩ : ∃ t_ : Int32, t_ = v14 + (1 : Int32) := ⟨_, rfl⟩
  refine oW.iadd (pc' := 17) K at_16 ev16 rfl ?_
  have tv16 := oIadd ev16 (by first | omega | (have oTs' := oTs; omega) | (simp only [Int32.reduceToInt, Int64.reduceToInt]; omega))
  try simp only [Int32.reduceToInt, Int64.reduceToInt] at tv16
  refine oW.istore (Ls' := #[.val (.int p0), .val (.int p1), .val (.int p2), .val (.int p3), .val (.int p4), .val (.int v5), .val (.int v16), .unset, .unset, .unset, .unset, .unset, .unset, .unset, .unset]) (pc' := 19) K at_17 rfl rfl ?_
  refine oW.iload (pc' := 21) K at_19 rfl rfl ?_
  refine oW.ldcI (pc' := 23) K (hw _ (List.mem_of_getElem? (i := 0) rfl)) at_21 rfl ?_
  obtain ⟨v23, ev23⟩ : ∃ t_ : Int32, t_ = p4 &&& (2147483647 : Int32) := ⟨_, rfl⟩
  refine oW.iand (pc' := 24) K at_23 ev23 rfl ?_
  have tv23 := oMaskR 2147483647 (by decide) ev23
  refine oW.iload (pc' := 26) K at_24 rfl rfl ?_
  obtain ⟨v26, ev26⟩ : ∃ t_ : Int32, t_ = v23 % v16 := ⟨_, rfl⟩
  refine oW.irem (pc' := 27) K at_26 (oNe0 (by omega)) ev26 rfl ?_
  have tv26 := oRemB ev26 (by omega) (by omega)
  refine oW.iconst (v := (1 : Int32)) (pc' := 28) K at_27 (by decide) rfl ?_
  obtain ⟨v28, ev28⟩ : ∃ t_ : Int32, t_ = v26 + (1 : Int32) := ⟨_, rfl⟩
  refine oW.iadd (pc' := 29) K at_28 ev28 rfl ?_
  have tv28 := oIadd ev28 (by first | omega | (have oTs' := oTs; omega) | (simp only [Int32.reduceToInt, Int64.reduceToInt]; omega))
  try simp only [Int32.reduceToInt, Int64.reduceToInt] at tv28
  refine oW.istore (Ls' := #[.val (.int p0), .val (.int p1), .val (.int p2), .val (.int p3), .val (.int p4), .val (.int v5), .val (.int v16), .val (.int v28), .unset, .unset, .unset, .unset, .unset, .unset, .unset]) (pc' := 31) K at_29 rfl rfl ?_
  refine oW.iloadN (pc' := 32) K at_31 rfl rfl ?_
  refine oW.iconst (v := (1 : Int32)) (pc' := 33) K at_32 (by decide) rfl ?_
  obtain ⟨v33, ev33⟩ : ∃ t_ : Int32, t_ = p0 &&& (1 : Int32) := ⟨_, rfl⟩
  refine oW.iand (pc' := 34) K at_33 ev33 rfl ?_
  have tv33 := oMaskR 1 (by decide) ev33
  refine oW.if_eq (pc' := 41) (pc3 := 37) K at_34 (by decide) (by decide) rfl (fun c34 => ?_) (fun c34 => ?_)
  · refine oW.iconst (v := (0 : Int32)) (pc' := 42) K at_41 (by decide) rfl ?_
    refine oW.istore (Ls' := #[.val (.int p0), .val (.int p1), .val (.int p2), .val (.int p3), .val (.int p4), .val (.int v5), .val (.int v16), .val (.int v28), .val (.int (0 : Int32)), .unset, .unset, .unset, .unset, .unset, .unset]) (pc' := 44) K at_42 rfl rfl ?_
    refine oW.iload (pc' := 46) K at_44 rfl rfl ?_
    refine oW.if_eq (pc' := 57) (pc3 := 49) K at_46 (by decide) (by decide) rfl (fun _ => ?_) (fun q => absurd q (by decide))
    refine oW.iloadN (pc' := 58) K at_57 rfl rfl ?_
    refine oW.bipush (v := (15 : Int32)) (pc' := 60) K at_58 (by decide) rfl ?_
    obtain ⟨v60, ev60⟩ : ∃ t_ : Int32, t_ = p1 &&& (15 : Int32) := ⟨_, rfl⟩
    refine oW.iand (pc' := 61) K at_60 ev60 rfl ?_
    have tv60 := oMaskR 15 (by decide) ev60
    refine oW.iconst (v := (1 : Int32)) (pc' := 62) K at_61 (by decide) rfl ?_
    obtain ⟨v62, ev62⟩ : ∃ t_ : Int32, t_ = v60 + (1 : Int32) := ⟨_, rfl⟩
    refine oW.iadd (pc' := 63) K at_62 ev62 rfl ?_
    have tv62 := oIadd ev62 (by first | omega | (have oTs' := oTs; omega) | (simp only [Int32.reduceToInt, Int64.reduceToInt]; omega))
    try simp only [Int32.reduceToInt, Int64.reduceToInt] at tv62
    obtain ⟨S, hSN⟩ : ∃ n : Nat, v62.toInt = (n : Int) := ⟨v62.toInt.toNat, by omega⟩
    have hS : 1 ≤ S ∧ S ≤ 16 := by omega
    refine oW.istore (Ls' := #[.val (.int p0), .val (.int p1), .val (.int p2), .val (.int p3), .val (.int p4), .val (.int v5), .val (.int v16), .val (.int v28), .val (.int (0 : Int32)), .val (.int v62), .unset, .unset, .unset, .unset, .unset]) (pc' := 65) K at_63 rfl rfl ?_
    refine oW.iload (pc' := 67) K at_65 rfl rfl ?_
    refine oW.if_eq (pc' := 76) (pc3 := 70) K at_67 (by decide) (by decide) rfl (fun _ => ?_) (fun q => absurd q (by decide))
    refine oW.getst (pc' := 79) K (hw _ (List.mem_of_getElem? (i := 1) rfl)) hSa at_76 rfl ?_
    refine oW.astore (Ls' := #[.val (.int p0), .val (.int p1), .val (.int p2), .val (.int p3), .val (.int p4), .val (.int v5), .val (.int v16), .val (.int v28), .val (.int (0 : Int32)), .val (.int v62), .val (.ref ka), .unset, .unset, .unset, .unset]) (pc' := 81) K at_79 rfl rfl rfl ?_
    refine oW.new (fs := [("com/example/term_proximity_ranking/termproximityranking/plm/KernelWeights", "capacity", "I", (.int (0 : Int32))), ("com/example/term_proximity_ranking/termproximityranking/plm/KernelWeights", "mirrored", "[D", .null), ("com/example/term_proximity_ranking/termproximityranking/plm/KernelWeights", "sums", "[D", .null), ("com/example/term_proximity_ranking/termproximityranking/plm/KernelWeights", "reach", "I", (.int (0 : Int32)))]) (cells' := 1) (slots' := 4) (dsf := fun z => [(z, .inr ("com/example/term_proximity_ranking/termproximityranking/plm/KernelWeights", [("com/example/term_proximity_ranking/termproximityranking/plm/KernelWeights", "capacity", "I", (.int (0 : Int32))), ("com/example/term_proximity_ranking/termproximityranking/plm/KernelWeights", "mirrored", "[D", .null), ("com/example/term_proximity_ranking/termproximityranking/plm/KernelWeights", "sums", "[D", .null), ("com/example/term_proximity_ranking/termproximityranking/plm/KernelWeights", "reach", "I", (.int (0 : Int32)))]))]) (pc' := 84) K (hw _ (List.mem_of_getElem? (i := 4) rfl)) (hw _ (List.mem_of_getElem? (i := 5) rfl)) (hw _ (List.mem_of_getElem? (i := 6) rfl)) (oLd_0 hw) at_81 (by decide) (by decide) rfl rfl (fun _ => rfl) rfl ?_
    intro a81 ha81
    refine oW.dup (pc' := 85) K at_84 rfl rfl ?_
    refine oW.aload (pc' := 87) K at_85 rfl rfl rfl ?_
    refine oW.iload (pc' := 89) K at_87 rfl rfl ?_
    obtain ⟨v89, ev89⟩ : ∃ t_ : UInt64, t_ = FP.i2d v62 := ⟨_, rfl⟩
    have q89 : oQ ((S : Nat) : Int) 0 v89 := hSN ▸ oQ.int (oI2D ev89)
    refine oW.i2d (pc' := 90) K at_89 ev89 rfl ?_
    refine oW.iload (pc' := 92) K at_90 rfl rfl ?_
    obtain ⟨cN, hcN⟩ : ∃ n : Nat, v5.toInt = (n : Int) := ⟨v5.toInt.toNat, by omega⟩
    obtain ⟨lN, hlN⟩ : ∃ n : Nat, v16.toInt = (n : Int) := ⟨v16.toInt.toNat, by omega⟩
    obtain ⟨pN, hpN⟩ : ∃ n : Nat, v28.toInt = (n : Int) := ⟨v28.toInt.toNat, by omega⟩
    have hc := oIdxN hcN
    have hl := oIdxN hlN
    have hG := oG_b (t := false) (S := S) (by omega)
    refine oW.callI (a := a81) (argsL := [(.ref ka), (.double v89), (.int v5)]) (S := [(.ref a81)]) (rm := ({ frames := 2, cells := 2, slots := 47, locals := 60 } : Room)) (W := 1) (cells' := 3) (slots' := 51) (pc' := 95) K rfl (hw _ (List.mem_of_getElem? (i := 7) rfl)) (hw _ (List.mem_of_getElem? (i := 8) rfl)) (hw _ (List.mem_of_getElem? (i := 6) rfl)) (hw _ (List.mem_of_getElem? (i := 9) rfl)) (by decide) (own_init hw hEa (hw _ (List.mem_of_getElem? (i := 22) rfl)) (cN := cN) (κ := 0) (G := (oG false S)) hc (by omega) (by decide) hG (fun iI n hi hn ds0 => own_weight5 hw hEa hFa hS q89 hi hn ds0)) (lenOf pd_4 rfl) at_92 rfl rfl (Nat.le_of_eq rfl) (by decide) (by decide) (by decide) (by decide) rfl rfl rfl ?_
    rintro _ ⟨b1, b2, mir, sums, rc, rfl, hsl, hsum⟩
    refine oW.astore (Ls' := #[.val (.int p0), .val (.int p1), .val (.int p2), .val (.int p3), .val (.int p4), .val (.int v5), .val (.int v16), .val (.int v28), .val (.int (0 : Int32)), .val (.int v62), .val (.ref ka), .val (.ref a81), .unset, .unset, .unset]) (pc' := 97) K at_95 rfl rfl rfl ?_
    refine oW.aload (pc' := 99) K at_97 rfl rfl rfl ?_
    refine oW.iload (pc' := 101) K at_99 rfl rfl ?_
    refine oW.callV (a := a81) (argsL := [(.int v16)]) (S := []) (rm := ({ frames := 0, cells := 1, slots := 16, locals := 0 } : Room)) (W := 0) (cells' := 4) (slots' := 67) (pc' := 104) K (hw _ (List.mem_of_getElem? (i := 40) rfl)) (hw _ (List.mem_of_getElem? (i := 41) rfl)) (hw _ (List.mem_of_getElem? (i := 43) rfl)) (hw _ (List.mem_of_getElem? (i := 42) rfl)) (hw _ (List.mem_of_getElem? (i := 44) rfl)) (hw _ (List.mem_of_getElem? (i := 6) rfl)) (by decide) (oNF (hw _ (List.mem_of_getElem? (i := 43) rfl))) (fun _ M => oMem.exa (i := 0) rfl M) (own_pos hw (κ := 0) (G := (oG false S)) (by decide) hG hl (cN := cN) (by omega) (by omega) hsum) (lenOf pd_5 rfl) at_101 rfl rfl (Nat.le_of_eq rfl) (by decide) (by decide) (by decide) (by decide) rfl rfl rfl ?_
    rintro _ _ ⟨b3, vs, rfl, rfl, hvl, hvs⟩
    refine oW.astore (Ls' := #[.val (.int p0), .val (.int p1), .val (.int p2), .val (.int p3), .val (.int p4), .val (.int v5), .val (.int v16), .val (.int v28), .val (.int (0 : Int32)), .val (.int v62), .val (.ref ka), .val (.ref a81), .val (.ref b3), .unset, .unset]) (pc' := 106) K at_104 rfl rfl rfl ?_
    refine oW.aload (pc' := 108) K at_106 rfl rfl rfl ?_
    obtain ⟨v108, ev108⟩ : ∃ t_ : Int32, t_ = Int32.ofNat (vs).length := ⟨_, rfl⟩
    refine oW.alen (i := 3) (pc' := 109) K at_108 rfl ev108 rfl ?_
    refine oW.iload (pc' := 111) K at_109 rfl rfl ?_
    refine oW.icmp_eq (pc' := 116) (pc3 := 114) K at_111 (by decide) (by decide) rfl (fun c111 => ?_) (fun q => absurd (ev108.trans ((congrArg Int32.ofNat hvl).trans hl.symm)) q)
    refine oW.dconst1 (pc' := 117) K at_116 rfl ?_
    refine oW.iload (pc' := 119) K at_117 rfl rfl ?_
    refine oW.iload (pc' := 121) K at_119 rfl rfl ?_
    refine oW.iload (pc' := 123) K at_121 rfl rfl ?_
    refine oW.iconst (v := (1 : Int32)) (pc' := 124) K at_123 (by decide) rfl ?_
    obtain ⟨v124, ev124⟩ : ∃ t_ : Int32, t_ = v28 - (1 : Int32) := ⟨_, rfl⟩
    refine oW.isub (pc' := 125) K at_124 ev124 rfl ?_
    have tv124 := oIsub ev124 (by first | omega | (have oTs' := oTs; omega) | (simp only [Int32.reduceToInt, Int64.reduceToInt]; omega))
    try simp only [Int32.reduceToInt, Int64.reduceToInt] at tv124
    obtain ⟨aN, haN⟩ : ∃ n : Nat, v124.toInt = (n : Int) := ⟨v124.toInt.toNat, by omega⟩
    refine oW.callS (argsL := [(.int (0 : Int32)), (.int v62), (.int v124)]) (S := [(.double (4607182418800017408 : UInt64))]) (rm := ({ frames := 1, cells := 0, slots := 0, locals := 30 } : Room)) (W := 2) (cells' := 4) (slots' := 67) (pc' := 128) K (hw _ (List.mem_of_getElem? (i := 45) rfl)) (hw _ (List.mem_of_getElem? (i := 46) rfl)) (hw _ (List.mem_of_getElem? (i := 47) rfl)) (hw _ (List.mem_of_getElem? (i := 48) rfl)) (by decide) (own_tail0 hw (oIdxN haN) (oIdxN hSN) (by omega) hS.2) (lenOf pd_6 rfl) at_125 rfl rfl (Nat.le_of_eq rfl) (by decide) (by decide) (by decide) (by decide) rfl rfl rfl ?_
    rintro _ _ ⟨ta, rfl, qta, rfl⟩
    have bta : 0 ≤ oTl false (S) aN ∧ oTl false (S) aN ≤ 100 := oTB5 (by omega)
    obtain ⟨v128, ev128⟩ : ∃ t_ : UInt64, t_ = FP.dadd (4607182418800017408 : UInt64) ta := ⟨_, rfl⟩
    have q128 := (oQone 0 (by omega)).add qta ev128 (by omega) (by omega)
    refine oW.dadd (pc' := 129) K at_128 ev128 (q128.nn) rfl ?_
    refine oW.iload (pc' := 131) K at_129 rfl rfl ?_
    refine oW.iload (pc' := 133) K at_131 rfl rfl ?_
    refine oW.iload (pc' := 135) K at_133 rfl rfl ?_
    refine oW.iload (pc' := 137) K at_135 rfl rfl ?_
    obtain ⟨v137, ev137⟩ : ∃ t_ : Int32, t_ = v16 - v28 := ⟨_, rfl⟩
    refine oW.isub (pc' := 138) K at_137 ev137 rfl ?_
    have tv137 := oIsub ev137 (by first | omega | (have oTs' := oTs; omega) | (simp only [Int32.reduceToInt, Int64.reduceToInt]; omega))
    try simp only [Int32.reduceToInt, Int64.reduceToInt] at tv137
    obtain ⟨bN, hbN⟩ : ∃ n : Nat, v137.toInt = (n : Int) := ⟨v137.toInt.toNat, by omega⟩
    refine oW.callS (argsL := [(.int (0 : Int32)), (.int v62), (.int v137)]) (S := [(.double v128)]) (rm := ({ frames := 1, cells := 0, slots := 0, locals := 30 } : Room)) (W := 2) (cells' := 4) (slots' := 67) (pc' := 141) K (hw _ (List.mem_of_getElem? (i := 45) rfl)) (hw _ (List.mem_of_getElem? (i := 46) rfl)) (hw _ (List.mem_of_getElem? (i := 47) rfl)) (hw _ (List.mem_of_getElem? (i := 48) rfl)) (by decide) (own_tail0 hw (oIdxN hbN) (oIdxN hSN) (by omega) hS.2) (lenOf pd_6 rfl) at_138 rfl rfl (Nat.le_of_eq rfl) (by decide) (by decide) (by decide) (by decide) rfl rfl rfl ?_
    rintro _ _ ⟨tb, rfl, qtb, rfl⟩
    have btb : 0 ≤ oTl false (S) bN ∧ oTl false (S) bN ≤ 100 := oTB5 (by omega)
    obtain ⟨v141, ev141⟩ : ∃ t_ : UInt64, t_ = FP.dadd v128 tb := ⟨_, rfl⟩
    have q141 := q128.add qtb ev141 (by omega) (by omega)
    refine oW.dadd (pc' := 142) K at_141 ev141 (q141.nn) rfl ?_
    refine oW.dstore (Ls' := #[.val (.int p0), .val (.int p1), .val (.int p2), .val (.int p3), .val (.int p4), .val (.int v5), .val (.int v16), .val (.int v28), .val (.int (0 : Int32)), .val (.int v62), .val (.ref ka), .val (.ref a81), .val (.ref b3), .val (.double v141), .second]) (pc' := 144) K at_142 rfl rfl ?_
    refine oW.aload (pc' := 146) K at_144 rfl rfl rfl ?_
    refine oW.iload (pc' := 148) K at_146 rfl rfl ?_
    refine oW.iconst (v := (1 : Int32)) (pc' := 149) K at_148 (by decide) rfl ?_
    obtain ⟨v149, ev149⟩ : ∃ t_ : Int32, t_ = v28 - (1 : Int32) := ⟨_, rfl⟩
    refine oW.isub (pc' := 150) K at_149 ev149 rfl ?_
    have tv149 := oIsub ev149 (by first | omega | (have oTs' := oTs; omega) | (simp only [Int32.reduceToInt, Int64.reduceToInt]; omega))
    try simp only [Int32.reduceToInt, Int64.reduceToInt] at tv149
    obtain ⟨xr, gr, qr⟩ := hvs v149.toInt.toNat (by omega)
    refine oW.daload (i := 3) (k := v149.toInt.toNat) (pc' := 151) K at_150 rfl (oIdx (by omega)) (by omega) gr rfl ?_
    refine oW.dload (pc' := 153) K at_151 rfl rfl ?_
    obtain ⟨v153, ev153⟩ : ∃ t_ : Int32, t_ = cmpValue (FP.dcmp xr v141) .l := ⟨_, rfl⟩
    refine oW.dcmp (pc' := 154) K at_153 ev153 rfl ?_
    have hfin := oFin5 (a := aN) (b := bN) hS (by omega) (by omega)
    rw [show v149.toInt.toNat = aN by omega, show lN - aN = bN + 1 by omega, hfin] at qr
    refine oW.if_ne (pc' := 161) (pc3 := 157) K at_154 (by decide) (by decide) rfl (fun q => absurd ((qr.cmp q141 ev153).2.1.mpr rfl) q) (fun c154 => ?_)
    refine oW.iconst (v := (1 : Int32)) (pc' := 158) K at_157 (by decide) rfl ?_
    refine oW.goto (pc' := 162) K at_158 (by decide) (by decide) ?_
    exact oW.retB K rfl at_162 (by decide) (by decide) ⟨_, rfl, rfl⟩
  · refine oW.iconst (v := (1 : Int32)) (pc' := 38) K at_37 (by decide) rfl ?_
    refine oW.goto (pc' := 42) K at_38 (by decide) (by decide) ?_
    refine oW.istore (Ls' := #[.val (.int p0), .val (.int p1), .val (.int p2), .val (.int p3), .val (.int p4), .val (.int v5), .val (.int v16), .val (.int v28), .val (.int (1 : Int32)), .unset, .unset, .unset, .unset, .unset, .unset]) (pc' := 44) K at_42 rfl rfl ?_
    refine oW.iload (pc' := 46) K at_44 rfl rfl ?_
    refine oW.if_eq (pc' := 57) (pc3 := 49) K at_46 (by decide) (by decide) rfl (fun q => absurd q (by decide)) (fun _ => ?_)
    refine oW.iconst (v := (1 : Int32)) (pc' := 50) K at_49 (by decide) rfl ?_
    refine oW.iloadN (pc' := 51) K at_50 rfl rfl ?_
    refine oW.iconst (v := (3 : Int32)) (pc' := 52) K at_51 (by decide) rfl ?_
    obtain ⟨v52, ev52⟩ : ∃ t_ : Int32, t_ = p1 &&& (3 : Int32) := ⟨_, rfl⟩
    refine oW.iand (pc' := 53) K at_52 ev52 rfl ?_
    have tv52 := oMaskR 3 (by decide) ev52
    obtain ⟨v53, ev53⟩ : ∃ t_ : Int32, t_ = (1 : Int32) <<< (v52 &&& 31) := ⟨_, rfl⟩
    refine oW.ishl (pc' := 54) K at_53 ev53 rfl ?_
    obtain ⟨κ, hκ0⟩ : ∃ n : Nat, v52.toInt = (n : Int) := ⟨v52.toInt.toNat, by omega⟩
    have hκ : κ ≤ 3 := by omega
    have hSN := oShlI hκ0 (by omega) ev53
    have hp := oP3 hκ
    refine oW.goto (pc' := 63) K at_54 (by decide) (by decide) ?_
    refine oW.istore (Ls' := #[.val (.int p0), .val (.int p1), .val (.int p2), .val (.int p3), .val (.int p4), .val (.int v5), .val (.int v16), .val (.int v28), .val (.int (1 : Int32)), .val (.int v53), .unset, .unset, .unset, .unset, .unset]) (pc' := 65) K at_63 rfl rfl ?_
    refine oW.iload (pc' := 67) K at_65 rfl rfl ?_
    refine oW.if_eq (pc' := 76) (pc3 := 70) K at_67 (by decide) (by decide) rfl (fun q => absurd q (by decide)) (fun _ => ?_)
    refine oW.getst (pc' := 73) K (hw _ (List.mem_of_getElem? (i := 52) rfl)) hSb at_70 rfl ?_
    refine oW.goto (pc' := 79) K at_73 (by decide) (by decide) ?_
    refine oW.astore (Ls' := #[.val (.int p0), .val (.int p1), .val (.int p2), .val (.int p3), .val (.int p4), .val (.int v5), .val (.int v16), .val (.int v28), .val (.int (1 : Int32)), .val (.int v53), .val (.ref kb), .unset, .unset, .unset, .unset]) (pc' := 81) K at_79 rfl rfl rfl ?_
    refine oW.new (fs := [("com/example/term_proximity_ranking/termproximityranking/plm/KernelWeights", "capacity", "I", (.int (0 : Int32))), ("com/example/term_proximity_ranking/termproximityranking/plm/KernelWeights", "mirrored", "[D", .null), ("com/example/term_proximity_ranking/termproximityranking/plm/KernelWeights", "sums", "[D", .null), ("com/example/term_proximity_ranking/termproximityranking/plm/KernelWeights", "reach", "I", (.int (0 : Int32)))]) (cells' := 1) (slots' := 4) (dsf := fun z => [(z, .inr ("com/example/term_proximity_ranking/termproximityranking/plm/KernelWeights", [("com/example/term_proximity_ranking/termproximityranking/plm/KernelWeights", "capacity", "I", (.int (0 : Int32))), ("com/example/term_proximity_ranking/termproximityranking/plm/KernelWeights", "mirrored", "[D", .null), ("com/example/term_proximity_ranking/termproximityranking/plm/KernelWeights", "sums", "[D", .null), ("com/example/term_proximity_ranking/termproximityranking/plm/KernelWeights", "reach", "I", (.int (0 : Int32)))]))]) (pc' := 84) K (hw _ (List.mem_of_getElem? (i := 4) rfl)) (hw _ (List.mem_of_getElem? (i := 5) rfl)) (hw _ (List.mem_of_getElem? (i := 6) rfl)) (oLd_0 hw) at_81 (by decide) (by decide) rfl rfl (fun _ => rfl) rfl ?_
    intro a81 ha81
    refine oW.dup (pc' := 85) K at_84 rfl rfl ?_
    refine oW.aload (pc' := 87) K at_85 rfl rfl rfl ?_
    refine oW.iload (pc' := 89) K at_87 rfl rfl ?_
    obtain ⟨v89, ev89⟩ : ∃ t_ : UInt64, t_ = FP.i2d v53 := ⟨_, rfl⟩
    have q89 : oQ ((2 ^ κ : Nat) : Int) 0 v89 := hSN ▸ oQ.int (oI2D ev89)
    refine oW.i2d (pc' := 90) K at_89 ev89 rfl ?_
    refine oW.iload (pc' := 92) K at_90 rfl rfl ?_
    obtain ⟨cN, hcN⟩ : ∃ n : Nat, v5.toInt = (n : Int) := ⟨v5.toInt.toNat, by omega⟩
    obtain ⟨lN, hlN⟩ : ∃ n : Nat, v16.toInt = (n : Int) := ⟨v16.toInt.toNat, by omega⟩
    obtain ⟨pN, hpN⟩ : ∃ n : Nat, v28.toInt = (n : Int) := ⟨v28.toInt.toNat, by omega⟩
    have hc := oIdxN hcN
    have hl := oIdxN hlN
    have hG := oG_b (t := true) (S := 2 ^ κ) (by omega)
    refine oW.callI (a := a81) (argsL := [(.ref kb), (.double v89), (.int v5)]) (S := [(.ref a81)]) (rm := ({ frames := 2, cells := 2, slots := 47, locals := 60 } : Room)) (W := 1) (cells' := 3) (slots' := 51) (pc' := 95) K rfl (hw _ (List.mem_of_getElem? (i := 7) rfl)) (hw _ (List.mem_of_getElem? (i := 8) rfl)) (hw _ (List.mem_of_getElem? (i := 6) rfl)) (hw _ (List.mem_of_getElem? (i := 9) rfl)) (by decide) (own_init hw hEb (hw _ (List.mem_of_getElem? (i := 54) rfl)) (cN := cN) (κ := κ) (G := (oG true (2 ^ κ))) hc (by omega) hκ hG (fun iI n hi hn ds0 => own_weight2 hw hEb hFb hκ q89 hi hn ds0)) (lenOf pd_4 rfl) at_92 rfl rfl (Nat.le_of_eq rfl) (by decide) (by decide) (by decide) (by decide) rfl rfl rfl ?_
    rintro _ ⟨b1, b2, mir, sums, rc, rfl, hsl, hsum⟩
    refine oW.astore (Ls' := #[.val (.int p0), .val (.int p1), .val (.int p2), .val (.int p3), .val (.int p4), .val (.int v5), .val (.int v16), .val (.int v28), .val (.int (1 : Int32)), .val (.int v53), .val (.ref kb), .val (.ref a81), .unset, .unset, .unset]) (pc' := 97) K at_95 rfl rfl rfl ?_
    refine oW.aload (pc' := 99) K at_97 rfl rfl rfl ?_
    refine oW.iload (pc' := 101) K at_99 rfl rfl ?_
    refine oW.callV (a := a81) (argsL := [(.int v16)]) (S := []) (rm := ({ frames := 0, cells := 1, slots := 16, locals := 0 } : Room)) (W := 0) (cells' := 4) (slots' := 67) (pc' := 104) K (hw _ (List.mem_of_getElem? (i := 40) rfl)) (hw _ (List.mem_of_getElem? (i := 41) rfl)) (hw _ (List.mem_of_getElem? (i := 43) rfl)) (hw _ (List.mem_of_getElem? (i := 42) rfl)) (hw _ (List.mem_of_getElem? (i := 44) rfl)) (hw _ (List.mem_of_getElem? (i := 6) rfl)) (by decide) (oNF (hw _ (List.mem_of_getElem? (i := 43) rfl))) (fun _ M => oMem.exa (i := 0) rfl M) (own_pos hw (κ := κ) (G := (oG true (2 ^ κ))) hκ hG hl (cN := cN) (by omega) (by omega) hsum) (lenOf pd_5 rfl) at_101 rfl rfl (Nat.le_of_eq rfl) (by decide) (by decide) (by decide) (by decide) rfl rfl rfl ?_
    rintro _ _ ⟨b3, vs, rfl, rfl, hvl, hvs⟩
    refine oW.astore (Ls' := #[.val (.int p0), .val (.int p1), .val (.int p2), .val (.int p3), .val (.int p4), .val (.int v5), .val (.int v16), .val (.int v28), .val (.int (1 : Int32)), .val (.int v53), .val (.ref kb), .val (.ref a81), .val (.ref b3), .unset, .unset]) (pc' := 106) K at_104 rfl rfl rfl ?_
    refine oW.aload (pc' := 108) K at_106 rfl rfl rfl ?_
    obtain ⟨v108, ev108⟩ : ∃ t_ : Int32, t_ = Int32.ofNat (vs).length := ⟨_, rfl⟩
    refine oW.alen (i := 3) (pc' := 109) K at_108 rfl ev108 rfl ?_
    refine oW.iload (pc' := 111) K at_109 rfl rfl ?_
    refine oW.icmp_eq (pc' := 116) (pc3 := 114) K at_111 (by decide) (by decide) rfl (fun c111 => ?_) (fun q => absurd (ev108.trans ((congrArg Int32.ofNat hvl).trans hl.symm)) q)
    refine oW.dconst1 (pc' := 117) K at_116 rfl ?_
    refine oW.iload (pc' := 119) K at_117 rfl rfl ?_
    refine oW.iload (pc' := 121) K at_119 rfl rfl ?_
    refine oW.iload (pc' := 123) K at_121 rfl rfl ?_
    refine oW.iconst (v := (1 : Int32)) (pc' := 124) K at_123 (by decide) rfl ?_
    obtain ⟨v124, ev124⟩ : ∃ t_ : Int32, t_ = v28 - (1 : Int32) := ⟨_, rfl⟩
    refine oW.isub (pc' := 125) K at_124 ev124 rfl ?_
    have tv124 := oIsub ev124 (by first | omega | (have oTs' := oTs; omega) | (simp only [Int32.reduceToInt, Int64.reduceToInt]; omega))
    try simp only [Int32.reduceToInt, Int64.reduceToInt] at tv124
    obtain ⟨aN, haN⟩ : ∃ n : Nat, v124.toInt = (n : Int) := ⟨v124.toInt.toNat, by omega⟩
    refine oW.callS (argsL := [(.int (1 : Int32)), (.int v53), (.int v124)]) (S := [(.double (4607182418800017408 : UInt64))]) (rm := ({ frames := 1, cells := 0, slots := 0, locals := 30 } : Room)) (W := 2) (cells' := 4) (slots' := 67) (pc' := 128) K (hw _ (List.mem_of_getElem? (i := 45) rfl)) (hw _ (List.mem_of_getElem? (i := 46) rfl)) (hw _ (List.mem_of_getElem? (i := 47) rfl)) (hw _ (List.mem_of_getElem? (i := 48) rfl)) (by decide) (own_tail1 hw (oIdxN haN) (oIdxN hSN) (by omega) hκ) (lenOf pd_6 rfl) at_125 rfl rfl (Nat.le_of_eq rfl) (by decide) (by decide) (by decide) (by decide) rfl rfl rfl ?_
    rintro _ _ ⟨ta, rfl, qta, rfl⟩
    have bta : 0 ≤ oTl true (2 ^ κ) aN ∧ oTl true (2 ^ κ) aN ≤ 100 := oTBF ⟨κ, by omega⟩ ⟨aN, by omega⟩
    obtain ⟨v128, ev128⟩ : ∃ t_ : UInt64, t_ = FP.dadd (4607182418800017408 : UInt64) ta := ⟨_, rfl⟩
    have q128 := (oQone κ (by omega)).add qta ev128 (by omega) (by omega)
    refine oW.dadd (pc' := 129) K at_128 ev128 (q128.nn) rfl ?_
    refine oW.iload (pc' := 131) K at_129 rfl rfl ?_
    refine oW.iload (pc' := 133) K at_131 rfl rfl ?_
    refine oW.iload (pc' := 135) K at_133 rfl rfl ?_
    refine oW.iload (pc' := 137) K at_135 rfl rfl ?_
    obtain ⟨v137, ev137⟩ : ∃ t_ : Int32, t_ = v16 - v28 := ⟨_, rfl⟩
    refine oW.isub (pc' := 138) K at_137 ev137 rfl ?_
    have tv137 := oIsub ev137 (by first | omega | (have oTs' := oTs; omega) | (simp only [Int32.reduceToInt, Int64.reduceToInt]; omega))
    try simp only [Int32.reduceToInt, Int64.reduceToInt] at tv137
    obtain ⟨bN, hbN⟩ : ∃ n : Nat, v137.toInt = (n : Int) := ⟨v137.toInt.toNat, by omega⟩
    refine oW.callS (argsL := [(.int (1 : Int32)), (.int v53), (.int v137)]) (S := [(.double v128)]) (rm := ({ frames := 1, cells := 0, slots := 0, locals := 30 } : Room)) (W := 2) (cells' := 4) (slots' := 67) (pc' := 141) K (hw _ (List.mem_of_getElem? (i := 45) rfl)) (hw _ (List.mem_of_getElem? (i := 46) rfl)) (hw _ (List.mem_of_getElem? (i := 47) rfl)) (hw _ (List.mem_of_getElem? (i := 48) rfl)) (by decide) (own_tail1 hw (oIdxN hbN) (oIdxN hSN) (by omega) hκ) (lenOf pd_6 rfl) at_138 rfl rfl (Nat.le_of_eq rfl) (by decide) (by decide) (by decide) (by decide) rfl rfl rfl ?_
    rintro _ _ ⟨tb, rfl, qtb, rfl⟩
    have btb : 0 ≤ oTl true (2 ^ κ) bN ∧ oTl true (2 ^ κ) bN ≤ 100 := oTBF ⟨κ, by omega⟩ ⟨bN, by omega⟩
    obtain ⟨v141, ev141⟩ : ∃ t_ : UInt64, t_ = FP.dadd v128 tb := ⟨_, rfl⟩
    have q141 := q128.add qtb ev141 (by omega) (by omega)
    refine oW.dadd (pc' := 142) K at_141 ev141 (q141.nn) rfl ?_
    refine oW.dstore (Ls' := #[.val (.int p0), .val (.int p1), .val (.int p2), .val (.int p3), .val (.int p4), .val (.int v5), .val (.int v16), .val (.int v28), .val (.int (1 : Int32)), .val (.int v53), .val (.ref kb), .val (.ref a81), .val (.ref b3), .val (.double v141), .second]) (pc' := 144) K at_142 rfl rfl ?_
    refine oW.aload (pc' := 146) K at_144 rfl rfl rfl ?_
    refine oW.iload (pc' := 148) K at_146 rfl rfl ?_
    refine oW.iconst (v := (1 : Int32)) (pc' := 149) K at_148 (by decide) rfl ?_
    obtain ⟨v149, ev149⟩ : ∃ t_ : Int32, t_ = v28 - (1 : Int32) := ⟨_, rfl⟩
    refine oW.isub (pc' := 150) K at_149 ev149 rfl ?_
    have tv149 := oIsub ev149 (by first | omega | (have oTs' := oTs; omega) | (simp only [Int32.reduceToInt, Int64.reduceToInt]; omega))
    try simp only [Int32.reduceToInt, Int64.reduceToInt] at tv149
    obtain ⟨xr, gr, qr⟩ := hvs v149.toInt.toNat (by omega)
    refine oW.daload (i := 3) (k := v149.toInt.toNat) (pc' := 151) K at_150 rfl (oIdx (by omega)) (by omega) gr rfl ?_
    refine oW.dload (pc' := 153) K at_151 rfl rfl ?_
    obtain ⟨v153, ev153⟩ : ∃ t_ : Int32, t_ = cmpValue (FP.dcmp xr v141) .l := ⟨_, rfl⟩
    refine oW.dcmp (pc' := 154) K at_153 ev153 rfl ?_
    have hfin := oFin2 (a := aN) (b := bN) hκ (by omega) (by omega)
    rw [show v149.toInt.toNat = aN by omega, show lN - aN = bN + 1 by omega, hfin] at qr
    refine oW.if_ne (pc' := 161) (pc3 := 157) K at_154 (by decide) (by decide) rfl (fun q => absurd ((qr.cmp q141 ev153).2.1.mpr rfl) q) (fun c154 => ?_)
    refine oW.iconst (v := (1 : Int32)) (pc' := 158) K at_157 (by decide) rfl ?_
    refine oW.goto (pc' := 162) K at_158 (by decide) (by decide) ?_
    exact oW.retB K rfl at_162 (by decide) (by decide) ⟨_, rfl, rfl⟩
set_option maxRecDepth 65536 in
set_option maxHeartbeats 40000000 in
theorem comes_1 {Post : Tables → Env → Array Value → State → Outcome → State → Prop} (hpost : ∀ tb e args s v u, (limb_1_1.after args s (.returned v) u = true ∧ limb_1_2.after args s (.returned v) u = true ∧ True) → FrameEnd s (.returned v) u (Jvm.fieldLocs frame_1_writes args s ++ Jvm.arrayLocs frame_1_arrays args s ++ Jvm.staticLocs frame_1_statics s) 16 256 → Post tb e args s (.returned v) u) :
    ArmFor flags0 classFile x code maxLocals ret World_1 tables_1 room_1 Calls_1 rest_1 Pre_1 Post := by
  intro l hfl _ _ p e ha hc hk s m args below hf hA hF happ hP
  obtain ⟨hcalls, hrest, hpre⟩ := hP
  obtain ⟨-, -, -, hnamed, -, -, -, hat⟩ := (Spec.applies_iff hf).mp happ
  obtain ⟨hg, hn⟩ := and_e (Cond.before_iff.mp (show (Jvm.Cond.and given_1 narrow_1).before args s = true from hpre))
  obtain ⟨hcount, g0⟩ := and_e hg
  obtain ⟨k0, g1⟩ := and_e g0
  obtain ⟨k1, g2⟩ := and_e g1
  obtain ⟨k2, g3⟩ := and_e g2
  obtain ⟨k3, g4⟩ := and_e g3
  obtain ⟨w0, w1, w2, w3, w4, rfl⟩ : ∃ w0 w1 w2 w3 w4 : Value, args = #[w0, w1, w2, w3, w4] := by
    have hs : args.size = 5 := by simpa [Cond.value, given_1] using hcount
    obtain ⟨L⟩ := args
    match L, hs with
    | [w0, w1, w2, w3, w4], _ => exact ⟨w0, w1, w2, w3, w4, rfl⟩
  have hw := fun d (hd : d ∈ tables_1) => atoms_spec (ws := Jvm.Cond.code x code maxLocals ret :: tables_1) hat d (List.mem_cons_of_mem _ hd)
  obtain ⟨i0, ei0⟩ := is_v k0
  obtain rfl : w0 = (.int i0) := Option.some.inj ei0
  obtain ⟨i1, ei1⟩ := is_v k1
  obtain rfl : w1 = (.int i1) := Option.some.inj ei1
  obtain ⟨i2, ei2⟩ := is_v k2
  obtain rfl : w2 = (.int i2) := Option.some.inj ei2
  obtain ⟨i3, ei3⟩ := is_v k3
  obtain rfl : w3 = (.int i3) := Option.some.inj ei3
  obtain ⟨i4, ei4⟩ := is_v g4
  obtain rfl : w4 = (.int i4) := Option.some.inj ei4
  obtain ⟨n1, hn⟩ := and_e hn
  obtain ⟨n2, hn⟩ := and_e hn
  obtain ⟨n3, n4⟩ := and_e hn
  obtain ⟨ka, eva⟩ := exa_v n1
  have hSa := Sta.start eva (Or.inr ⟨(hw _ (List.mem_of_getElem? (i := 2) rfl)), (hw _ (List.mem_of_getElem? (i := 3) rfl))⟩)
  have hEa := Exa.start eva n1
  obtain ⟨xa, ya, za⟩ := Cond.eq_worth n2
  obtain rfl : xa = .int 1 := (Option.some.inj za).symm
  rw [fld_at eva] at ya
  have hFa := Fld.start ya
  obtain ⟨kb, evb⟩ := exa_v n3
  have hSb := Sta.start evb (Or.inr ⟨(hw _ (List.mem_of_getElem? (i := 2) rfl)), (hw _ (List.mem_of_getElem? (i := 53) rfl))⟩)
  have hEb := Exa.start evb n3
  obtain ⟨xb, yb, zb⟩ := Cond.eq_worth n4
  obtain rfl : xb = .int 1 := (Option.some.inj zb).symm
  rw [fld_at evb] at yb
  have hFb := Fld.start yb
  obtain ⟨n, o, h1, h2, h3, _, L, rfl, ⟨N, _, ⟨_, rfl, rfl⟩, _⟩, hq⟩ := (own_law (l := l) (h0 := s.heap) hw hSa hEa hFa hSb hEb hFb i0 i1 i2 i3 i4) s.heap (oMem.start s s.heap) p e ha hc hk s m _ below hf ((Spec.applies_iff_loose hf).mp happ).1 ⟨rfl, State.Warmed39.refl s, rfl⟩ trivial
  refine ⟨n, _, h1, h2, h3, hpost _ _ _ _ _ _ ⟨Cond.after_iff.mpr rfl, Cond.after_iff.mpr (eq_i res_at (Term.int_eval (1)) rfl), trivial⟩ ⟨hq.1, hq.2.1, (hq.2.2.sift fun y hy => Or.inr (N y hy)).mono (by decide) (by decide)⟩⟩
theorem main_1_1 : Claimed_1_1 := comes_1 fun _ _ _ _ _ _ h hF => ⟨h.1, hF⟩
theorem main_1_2 : Claimed_1_2 := comes_1 fun _ _ _ _ _ _ h hF => ⟨h.2.1, hF⟩
end Jvm.Pilot.@@N@@
namespace Jvm.Pilot.@@N@@
open Jvm Jvm.ClassFile Sem Op Lib Jvm.Free Jvm.Stand Jvm.Pilot.@@N@@.Jvm.D
/-! MADE BY PROGRAM (witnessworld.py) out of the Statement's table words and the real class files: 18 classes; the members and pool entries that the words name. The judged class is class 1, her method 1. -/
namespace start1
open Jvm.ClassFile
def u (s : String) : CpInfo := .utf8 (stringToUtf16 s)
/-- a pool by its gaps: so many unusable entries, then the entry; so many at the end -/
def gap : Nat → List CpInfo → List CpInfo
  | 0, r => r
  | n + 1, r => .unusable :: gap n r
def poolList (es : List (Nat × CpInfo)) (last : Nat) : List CpInfo := es.foldr (fun e r => gap e.1 (e.2 :: r)) (gap last [])
def pool (es : List (Nat × CpInfo)) (last : Nat) : Array CpInfo := ⟨poolList es last⟩
def fileOf (pool : Array CpInfo) (this : Nat) (attrs : Array Attribute := #[]) (ms : Array MethodInfo := #[]) (fl : Nat := 33) (sup : Nat := 0) (ifs : Array Nat := #[]) (fds : Array FieldInfo := #[]) : ClassFile where
  minorVersion := 0
  majorVersion := 65
  constantPool := pool
  accessFlags := fl
  thisClass := this
  superClass := sup
  interfaces := ifs
  fields := fds
  methods := ms
  attributes := attrs
def plain (name : String) (sup : Option ClassId) : Class where
  name := name
  kind := .ordinary
  loader := none
  accessFlags := 33
  super := sup
  interfaces := #[]
  cf := none
  fields := #[]
  methods := #[]
  instanceTypes := #[]
  staticTypes := #[]
  resolved := #[]
  callSites := []
  init := .initialized
  statics := none
  mirror := none

def pool0 : Array CpInfo := pool [(5, u "<init>"), (0, u "()V"), (1, .class_ 10), (1, u "java/lang/Object")] 113

def k0c0 : Code := { maxStack := 0, maxLocals := 1, code := object_method_1_code, exceptionTable := #[], attributes := #[] }
def k0m0 : Method := { name := "<init>", desc := "()V", sig := { parameters := [], returnType := none }, accessFlags := 1, code := some k0c0 }
/-- java/lang/Object -/
def k0 : Class := { plain "java/lang/Object" none with
  accessFlags := 33
  interfaces := #[]
  cf := some (fileOf pool0 8 #[] #[{ accessFlags := 1, nameIndex := 5, descriptorIndex := 6, attributes := #[] }] 33 0 #[] #[])
  fields := #[]
  methods := #[k0m0]
  instanceTypes := #[]
  staticTypes := #[]
  resolved := Array.replicate 124 none
  statics := none }

def pool1 : Array CpInfo := pool [(2, .class_ 4), (1, u "java/lang/Object"), (0, u "<init>"), (0, u "()V"), (0, .integer 2147483647), (0, .fieldref 9 10), (0, .class_ 11), (0, .nameAndType 12 13), (0, u "com/example/term_proximity_ranking/termproximityranking/plm/Kernel"), (0, u "TRIANGLE"), (0, u "Lcom/example/term_proximity_ranking/termproximityranking/plm/Kernel;"), (0, .fieldref 9 15), (0, .nameAndType 16 13), (0, u "PASSAGE"), (0, .class_ 18), (0, u "com/example/term_proximity_ranking/termproximityranking/plm/KernelWeights"), (0, .methodref 17 20), (0, .nameAndType 5 21), (0, u "(Lcom/example/term_proximity_ranking/termproximityranking/plm/Kernel;DI)V"), (0, .methodref 17 23), (0, .nameAndType 24 25), (0, u "positionLengths"), (0, u "(I)[D"), (0, .methodref 27 28), (0, .class_ 29), (0, .nameAndType 30 31), (0, u "com/example/term_proximity_ranking/termproximityranking/plm/KernelWeightsPositionLengthsPinLaw"), (0, u "tail"), (0, u "(ZII)D"), (0, .methodref 33 34), (0, .class_ 35), (0, .nameAndType 36 37), (0, u "java/lang/Math"), (0, u "min"), (0, u "(II)I"), (2, u "law"), (0, u "(IIIII)Z")] 5

def k1m0 : Method := { name := "<init>", desc := "()V", sig := { parameters := [], returnType := none }, accessFlags := 1, code := none }
def k1c1 : Code := { maxStack := 6, maxLocals := 15, code := code, exceptionTable := #[], attributes := #[] }
def k1m1 : Method := { name := "law", desc := "(IIIII)Z", sig := { parameters := [.int, .int, .int, .int, .int], returnType := some .boolean }, accessFlags := 9, code := some k1c1 }
def k1c2 : Code := { maxStack := 4, maxLocals := 4, code := method_3_code, exceptionTable := #[], attributes := #[] }
def k1m2 : Method := { name := "tail", desc := "(ZII)D", sig := { parameters := [.boolean, .int, .int], returnType := some .double }, accessFlags := 10, code := some k1c2 }
/-- com/example/term_proximity_ranking/termproximityranking/plm/KernelWeightsPositionLengthsPinLaw -/
def k1 : Class := { plain "com/example/term_proximity_ranking/termproximityranking/plm/KernelWeightsPositionLengthsPinLaw" (some 0) with
  accessFlags := 49
  interfaces := #[]
  cf := some (fileOf pool1 27 #[] #[{ accessFlags := 1, nameIndex := 5, descriptorIndex := 6, attributes := #[] }, { accessFlags := 9, nameIndex := 40, descriptorIndex := 41, attributes := #[] }, { accessFlags := 10, nameIndex := 30, descriptorIndex := 31, attributes := #[] }] 49 2 #[] #[])
  fields := #[]
  methods := #[k1m0, k1m1, k1m2]
  instanceTypes := #[]
  staticTypes := #[]
  resolved := Array.replicate 47 none
  statics := none }

def pool2 : Array CpInfo := pool [(1, .class_ 2), (0, u "java/lang/constant/Constable"), (0, .class_ 4), (0, u "java/lang/Object")] 6

/-- java/lang/constant/Constable -/
def k2 : Class := { plain "java/lang/constant/Constable" (some 0) with
  accessFlags := 1537
  interfaces := #[]
  cf := some (fileOf pool2 1 #[] #[] 1537 3 #[] #[])
  fields := #[]
  methods := #[]
  instanceTypes := #[]
  staticTypes := #[]
  resolved := Array.replicate 11 none
  statics := none }

def pool3 : Array CpInfo := pool [(1, .class_ 2), (0, u "java/lang/Comparable"), (0, .class_ 4), (0, u "java/lang/Object")] 7

/-- java/lang/Comparable -/
def k3 : Class := { plain "java/lang/Comparable" (some 0) with
  accessFlags := 1537
  interfaces := #[]
  cf := some (fileOf pool3 1 #[] #[] 1537 3 #[] #[])
  fields := #[]
  methods := #[]
  instanceTypes := #[]
  staticTypes := #[]
  resolved := Array.replicate 12 none
  statics := none }

def pool4 : Array CpInfo := pool [(1, .class_ 2), (0, u "java/io/Serializable"), (0, .class_ 4), (0, u "java/lang/Object")] 2

/-- java/io/Serializable -/
def k4 : Class := { plain "java/io/Serializable" (some 0) with
  accessFlags := 1537
  interfaces := #[]
  cf := some (fileOf pool4 1 #[] #[] 1537 3 #[] #[])
  fields := #[]
  methods := #[]
  instanceTypes := #[]
  staticTypes := #[]
  resolved := Array.replicate 7 none
  statics := none }

def pool5 : Array CpInfo := pool [(2, .class_ 4), (1, u "java/lang/Enum"), (0, u "name"), (0, u "Ljava/lang/String;"), (2, u "ordinal"), (0, u "I"), (1, .class_ 14), (1, u "java/lang/Object"), (4, u "hash"), (86, .class_ 108), (1, u "java/lang/Enum$EnumDesc"), (2, .class_ 112), (0, u "java/lang/constant/Constable"), (0, .class_ 114), (0, u "java/lang/Comparable"), (0, .class_ 116), (0, u "java/io/Serializable")] 87

/-- java/lang/Enum -/
def k5 : Class := { plain "java/lang/Enum" (some 0) with
  accessFlags := 1057
  interfaces := #[2, 3, 4]
  cf := some (fileOf pool5 2 #[.nestMembers #[106]] #[] 1057 12 #[111, 113, 115] #[{ accessFlags := 18, nameIndex := 5, descriptorIndex := 6, attributes := #[] }, { accessFlags := 18, nameIndex := 9, descriptorIndex := 10, attributes := #[] }, { accessFlags := 2, nameIndex := 19, descriptorIndex := 10, attributes := #[] }])
  fields := #[{ name := "name", type := (.object "java/lang/String"), accessFlags := 18, slot := 0, constantValue := 0 }, { name := "ordinal", type := .int, accessFlags := 18, slot := 1, constantValue := 0 }, { name := "hash", type := .int, accessFlags := 2, slot := 2, constantValue := 0 }]
  methods := #[]
  instanceTypes := #[(.object "java/lang/String"), .int, .int]
  staticTypes := #[]
  resolved := Array.replicate 204 none
  statics := none }

def pool6 : Array CpInfo := pool [(1, .class_ 2), (0, u "com/example/term_proximity_ranking/termproximityranking/plm/Kernel"), (2, u "GAUSSIAN"), (0, u "Lcom/example/term_proximity_ranking/termproximityranking/plm/Kernel;"), (2, u "TRIANGLE"), (2, u "COSINE"), (2, u "CIRCLE"), (2, u "PASSAGE"), (2, u "$VALUES"), (0, u "[Lcom/example/term_proximity_ranking/termproximityranking/plm/Kernel;"), (6, .class_ 31), (1, u "java/lang/Enum"), (8, u "label"), (0, u "Ljava/lang/String;"), (0, .fieldref 1 43), (0, .nameAndType 44 45), (0, u "bounded"), (0, u "Z"), (47, .methodref 1 94), (0, .nameAndType 95 96), (0, u "shape"), (0, u "(D)D"), (0, .class_ 98), (0, u "com/example/term_proximity_ranking/termproximityranking/plm/Kernel$1"), (6, .class_ 106), (0, u "com/example/term_proximity_ranking/termproximityranking/plm/Kernel$2"), (4, .class_ 112), (0, u "com/example/term_proximity_ranking/termproximityranking/plm/Kernel$3"), (4, .class_ 118), (0, u "com/example/term_proximity_ranking/termproximityranking/plm/Kernel$4"), (4, .class_ 124), (0, u "com/example/term_proximity_ranking/termproximityranking/plm/Kernel$5"), (16, u "weight"), (0, u "(ID)D")] 36

def k6c0 : Code := { maxStack := 5, maxLocals := 4, code := prog_36_method_6_code, exceptionTable := #[], attributes := #[] }
def k6m0 : Method := { name := "weight", desc := "(ID)D", sig := { parameters := [.int, .double], returnType := some .double }, accessFlags := 1, code := some k6c0 }
def k6m1 : Method := { name := "shape", desc := "(D)D", sig := { parameters := [.double], returnType := some .double }, accessFlags := 1024, code := none }
/-- com/example/term_proximity_ranking/termproximityranking/plm/Kernel -/
def k6 : Class := { plain "com/example/term_proximity_ranking/termproximityranking/plm/Kernel" (some 5) with
  accessFlags := 17441
  interfaces := #[]
  cf := some (fileOf pool6 1 #[.nestMembers #[123, 117, 111, 105, 97]] #[{ accessFlags := 1, nameIndex := 141, descriptorIndex := 142, attributes := #[] }, { accessFlags := 1024, nameIndex := 95, descriptorIndex := 96, attributes := #[] }] 17441 29 #[] #[{ accessFlags := 16409, nameIndex := 5, descriptorIndex := 6, attributes := #[] }, { accessFlags := 16409, nameIndex := 9, descriptorIndex := 6, attributes := #[] }, { accessFlags := 16409, nameIndex := 12, descriptorIndex := 6, attributes := #[] }, { accessFlags := 16409, nameIndex := 15, descriptorIndex := 6, attributes := #[] }, { accessFlags := 16409, nameIndex := 18, descriptorIndex := 6, attributes := #[] }, { accessFlags := 18, nameIndex := 40, descriptorIndex := 41, attributes := #[] }, { accessFlags := 18, nameIndex := 44, descriptorIndex := 45, attributes := #[] }, { accessFlags := 4122, nameIndex := 21, descriptorIndex := 22, attributes := #[] }])
  fields := #[{ name := "GAUSSIAN", type := (.object "com/example/term_proximity_ranking/termproximityranking/plm/Kernel"), accessFlags := 16409, slot := 0, constantValue := 0 }, { name := "TRIANGLE", type := (.object "com/example/term_proximity_ranking/termproximityranking/plm/Kernel"), accessFlags := 16409, slot := 1, constantValue := 0 }, { name := "COSINE", type := (.object "com/example/term_proximity_ranking/termproximityranking/plm/Kernel"), accessFlags := 16409, slot := 2, constantValue := 0 }, { name := "CIRCLE", type := (.object "com/example/term_proximity_ranking/termproximityranking/plm/Kernel"), accessFlags := 16409, slot := 3, constantValue := 0 }, { name := "PASSAGE", type := (.object "com/example/term_proximity_ranking/termproximityranking/plm/Kernel"), accessFlags := 16409, slot := 4, constantValue := 0 }, { name := "label", type := (.object "java/lang/String"), accessFlags := 18, slot := 3, constantValue := 0 }, { name := "bounded", type := .boolean, accessFlags := 18, slot := 4, constantValue := 0 }, { name := "$VALUES", type := (.array (.object "com/example/term_proximity_ranking/termproximityranking/plm/Kernel")), accessFlags := 4122, slot := 5, constantValue := 0 }]
  methods := #[k6m0, k6m1]
  instanceTypes := #[(.object "java/lang/String"), .int, .int, (.object "java/lang/String"), .boolean]
  staticTypes := #[(.object "com/example/term_proximity_ranking/termproximityranking/plm/Kernel"), (.object "com/example/term_proximity_ranking/termproximityranking/plm/Kernel"), (.object "com/example/term_proximity_ranking/termproximityranking/plm/Kernel"), (.object "com/example/term_proximity_ranking/termproximityranking/plm/Kernel"), (.object "com/example/term_proximity_ranking/termproximityranking/plm/Kernel"), (.array (.object "com/example/term_proximity_ranking/termproximityranking/plm/Kernel"))]
  resolved := Array.replicate 179 none
  statics := some 0 }

def pool7 : Array CpInfo := pool [(1, .methodref 2 3), (0, .class_ 4), (0, .nameAndType 5 6), (0, u "java/lang/Object"), (0, u "<init>"), (0, u "()V"), (0, .long 2), (1, .methodref 10 11), (0, .class_ 12), (0, .nameAndType 13 14), (0, u "java/lang/Math"), (0, u "toIntExact"), (0, u "(J)I"), (0, .methodref 16 17), (0, .class_ 18), (0, .nameAndType 19 20), (0, u "com/example/term_proximity_ranking/termproximityranking/plm/Kernel"), (0, u "weight"), (0, u "(ID)D"), (0, .fieldref 22 23), (0, .class_ 24), (0, .nameAndType 25 26), (0, u "com/example/term_proximity_ranking/termproximityranking/plm/KernelWeights"), (0, u "capacity"), (0, u "I"), (0, .fieldref 22 28), (0, .nameAndType 29 30), (0, u "mirrored"), (0, u "[D"), (0, .fieldref 22 32), (0, .nameAndType 33 30), (0, u "sums"), (0, .fieldref 22 35), (0, .nameAndType 36 26), (0, u "reach"), (19, u "(Lcom/example/term_proximity_ranking/termproximityranking/plm/Kernel;DI)V"), (9, u "positionLengths"), (0, u "(I)[D")] 2

def k7c0 : Code := { maxStack := 4, maxLocals := 13, code := prog_42_method_1_code, exceptionTable := #[], attributes := #[] }
def k7m0 : Method := { name := "<init>", desc := "(Lcom/example/term_proximity_ranking/termproximityranking/plm/Kernel;DI)V", sig := { parameters := [(.object "com/example/term_proximity_ranking/termproximityranking/plm/Kernel"), .double, .int], returnType := none }, accessFlags := 0, code := some k7c0 }
def k7c1 : Code := { maxStack := 7, maxLocals := 4, code := prog_42_method_4_code, exceptionTable := #[], attributes := #[] }
def k7m1 : Method := { name := "positionLengths", desc := "(I)[D", sig := { parameters := [.int], returnType := some (.array .double) }, accessFlags := 0, code := some k7c1 }
/-- com/example/term_proximity_ranking/termproximityranking/plm/KernelWeights -/
def k7 : Class := { plain "com/example/term_proximity_ranking/termproximityranking/plm/KernelWeights" (some 0) with
  accessFlags := 48
  interfaces := #[]
  cf := some (fileOf pool7 22 #[] #[{ accessFlags := 0, nameIndex := 5, descriptorIndex := 56, attributes := #[] }, { accessFlags := 0, nameIndex := 66, descriptorIndex := 67, attributes := #[] }] 48 2 #[] #[{ accessFlags := 18, nameIndex := 25, descriptorIndex := 26, attributes := #[] }, { accessFlags := 18, nameIndex := 29, descriptorIndex := 30, attributes := #[] }, { accessFlags := 18, nameIndex := 33, descriptorIndex := 30, attributes := #[] }, { accessFlags := 18, nameIndex := 36, descriptorIndex := 26, attributes := #[] }])
  fields := #[{ name := "capacity", type := .int, accessFlags := 18, slot := 0, constantValue := 0 }, { name := "mirrored", type := (.array .double), accessFlags := 18, slot := 1, constantValue := 0 }, { name := "sums", type := (.array .double), accessFlags := 18, slot := 2, constantValue := 0 }, { name := "reach", type := .int, accessFlags := 18, slot := 3, constantValue := 0 }]
  methods := #[k7m0, k7m1]
  instanceTypes := #[.int, (.array .double), (.array .double), .int]
  staticTypes := #[]
  resolved := Array.replicate 70 none
  statics := none }

def pool8 : Array CpInfo := pool [(1, .class_ 2), (0, u "java/lang/Math"), (1, .class_ 6), (1, u "java/lang/Object"), (0, u "<init>"), (0, u "()V"), (89, .class_ 100), (1, u "java/lang/Math$RandomNumberGeneratorHolder"), (71, u "negativeZeroFloatBits"), (0, u "J"), (2, u "negativeZeroDoubleBits"), (24, u "min"), (43, u "$assertionsDisabled"), (0, u "Z"), (88, u "(II)I"), (2, u "twoToTheDoubleScaleDown"), (0, u "D"), (4, u "twoToTheDoubleScaleUp"), (9, u "E"), (3, u "PI"), (2, u "TAU"), (2, u "DEGREES_TO_RADIANS"), (0, u "RADIANS_TO_DEGREES"), (39, u "toIntExact"), (0, u "(J)I")] 53

def k8m0 : Method := { name := "<init>", desc := "()V", sig := { parameters := [], returnType := none }, accessFlags := 2, code := none }
def k8c1 : Code := { maxStack := 4, maxLocals := 2, code := jdk_29_method_43_code, exceptionTable := #[], attributes := #[] }
def k8m1 : Method := { name := "toIntExact", desc := "(J)I", sig := { parameters := [.long], returnType := some .int }, accessFlags := 9, code := some k8c1 }
def k8c2 : Code := { maxStack := 2, maxLocals := 2, code := jdk_29_method_69_code, exceptionTable := #[], attributes := #[] }
def k8m2 : Method := { name := "min", desc := "(II)I", sig := { parameters := [.int, .int], returnType := some .int }, accessFlags := 9, code := some k8c2 }
/-- java/lang/Math -/
def k8 : Class := { plain "java/lang/Math" (some 0) with
  accessFlags := 49
  interfaces := #[]
  cf := some (fileOf pool8 1 #[.nestMembers #[98]] #[{ accessFlags := 2, nameIndex := 7, descriptorIndex := 8, attributes := #[] }, { accessFlags := 9, nameIndex := 405, descriptorIndex := 406, attributes := #[] }, { accessFlags := 9, nameIndex := 201, descriptorIndex := 335, attributes := #[] }] 49 4 #[] #[{ accessFlags := 25, nameIndex := 354, descriptorIndex := 339, attributes := #[] }, { accessFlags := 25, nameIndex := 358, descriptorIndex := 339, attributes := #[] }, { accessFlags := 25, nameIndex := 361, descriptorIndex := 339, attributes := #[] }, { accessFlags := 26, nameIndex := 364, descriptorIndex := 339, attributes := #[] }, { accessFlags := 26, nameIndex := 365, descriptorIndex := 339, attributes := #[] }, { accessFlags := 26, nameIndex := 172, descriptorIndex := 173, attributes := #[] }, { accessFlags := 26, nameIndex := 176, descriptorIndex := 173, attributes := #[] }, { accessFlags := 8, nameIndex := 344, descriptorIndex := 339, attributes := #[] }, { accessFlags := 8, nameIndex := 338, descriptorIndex := 339, attributes := #[] }, { accessFlags := 4120, nameIndex := 245, descriptorIndex := 246, attributes := #[] }])
  fields := #[{ name := "E", type := .double, accessFlags := 25, slot := 0, constantValue := 0 }, { name := "PI", type := .double, accessFlags := 25, slot := 1, constantValue := 0 }, { name := "TAU", type := .double, accessFlags := 25, slot := 2, constantValue := 0 }, { name := "DEGREES_TO_RADIANS", type := .double, accessFlags := 26, slot := 3, constantValue := 0 }, { name := "RADIANS_TO_DEGREES", type := .double, accessFlags := 26, slot := 4, constantValue := 0 }, { name := "negativeZeroFloatBits", type := .long, accessFlags := 26, slot := 5, constantValue := 0 }, { name := "negativeZeroDoubleBits", type := .long, accessFlags := 26, slot := 6, constantValue := 0 }, { name := "twoToTheDoubleScaleUp", type := .double, accessFlags := 8, slot := 7, constantValue := 0 }, { name := "twoToTheDoubleScaleDown", type := .double, accessFlags := 8, slot := 8, constantValue := 0 }, { name := "$assertionsDisabled", type := .boolean, accessFlags := 4120, slot := 9, constantValue := 0 }]
  methods := #[k8m0, k8m1, k8m2]
  instanceTypes := #[]
  staticTypes := #[.double, .double, .double, .double, .double, .long, .long, .double, .double, .boolean]
  resolved := Array.replicate 460 none
  statics := none }

def pool9 : Array CpInfo := pool [(2, .class_ 4), (1, u "com/example/term_proximity_ranking/termproximityranking/plm/Kernel"), (2, .class_ 8), (0, u "com/example/term_proximity_ranking/termproximityranking/plm/Kernel$5"), (3, u "shape"), (0, u "(D)D")] 5

def k9c0 : Code := { maxStack := 2, maxLocals := 3, code := prog_41_method_2_code, exceptionTable := #[], attributes := #[] }
def k9m0 : Method := { name := "shape", desc := "(D)D", sig := { parameters := [.double], returnType := some .double }, accessFlags := 0, code := some k9c0 }
/-- com/example/term_proximity_ranking/termproximityranking/plm/Kernel$5 -/
def k9 : Class := { plain "com/example/term_proximity_ranking/termproximityranking/plm/Kernel$5" (some 6) with
  accessFlags := 16432
  interfaces := #[]
  cf := some (fileOf pool9 7 #[.nestHost 2] #[{ accessFlags := 0, nameIndex := 12, descriptorIndex := 13, attributes := #[] }] 16432 2 #[] #[])
  fields := #[]
  methods := #[k9m0]
  instanceTypes := #[(.object "java/lang/String"), .int, .int, (.object "java/lang/String"), .boolean]
  staticTypes := #[]
  resolved := Array.replicate 19 none
  statics := none }

def pool10 : Array CpInfo := pool [(2, .class_ 4), (1, u "com/example/term_proximity_ranking/termproximityranking/plm/Kernel"), (2, .class_ 8), (0, u "com/example/term_proximity_ranking/termproximityranking/plm/Kernel$2"), (3, u "shape"), (0, u "(D)D")] 5

def k10c0 : Code := { maxStack := 4, maxLocals := 3, code := prog_38_method_2_code, exceptionTable := #[], attributes := #[] }
def k10m0 : Method := { name := "shape", desc := "(D)D", sig := { parameters := [.double], returnType := some .double }, accessFlags := 0, code := some k10c0 }
/-- com/example/term_proximity_ranking/termproximityranking/plm/Kernel$2 -/
def k10 : Class := { plain "com/example/term_proximity_ranking/termproximityranking/plm/Kernel$2" (some 6) with
  accessFlags := 16432
  interfaces := #[]
  cf := some (fileOf pool10 7 #[.nestHost 2] #[{ accessFlags := 0, nameIndex := 12, descriptorIndex := 13, attributes := #[] }] 16432 2 #[] #[])
  fields := #[]
  methods := #[k10m0]
  instanceTypes := #[(.object "java/lang/String"), .int, .int, (.object "java/lang/String"), .boolean]
  staticTypes := #[]
  resolved := Array.replicate 19 none
  statics := none }

def pool11 : Array CpInfo := pool [(1, u "java/lang/Cloneable"), (0, .class_ 1), (0, u "java/lang/Object"), (0, .class_ 3)] 3

/-- java/lang/Cloneable -/
def k11 : Class := { plain "java/lang/Cloneable" (some 0) with
  accessFlags := 1537
  interfaces := #[]
  cf := some (fileOf pool11 2 #[] #[] 1537 4 #[] #[])
  fields := #[]
  methods := #[]
  instanceTypes := #[]
  staticTypes := #[]
  resolved := Array.replicate 8 none
  statics := none }

/-- the primitive byte -/
def k12 : Class := { plain "byte" none with kind := .primitive 'B', accessFlags := 0x411 }
/-- [B -/
def k13 : Class := { plain "[B" (some 0) with kind := .array 12 .byte, interfaces := #[11, 4], accessFlags := 1041 }

/-- the primitive double -/
def k14 : Class := { plain "double" none with kind := .primitive 'D', accessFlags := 0x411 }
/-- [D -/
def k15 : Class := { plain "[D" (some 0) with kind := .array 14 .double, interfaces := #[11, 4], accessFlags := 1041 }

/-- the primitive int -/
def k16 : Class := { plain "int" none with kind := .primitive 'I', accessFlags := 0x411 }
/-- [I -/
def k17 : Class := { plain "[I" (some 0) with kind := .array 16 .int, interfaces := #[11, 4], accessFlags := 1041 }

def heap : Heap := #[{ cls := 6, slots := #[.null, .ref 2, .null, .null, .ref 1, .null], vm := .statics 6 },
  { cls := 9, slots := #[.null, .int 0, .int 0, .null, .int 1], vm := .none },
  { cls := 10, slots := #[.null, .int 0, .int 0, .null, .int 1], vm := .none }]
def classes : Array Class := #[k0, k1, k2, k3, k4, k5, k6, k7, k8, k9, k10, k11, k12, k13, k14, k15, k16, k17]
def interned : List (Array UInt16 × Addr) := []
def slotsUsed : Nat := 16
def theMethod : MethodId := ⟨1, 1⟩
def args0 : Array Value := #[.int 3, .int 4, .int 5, .int 6, .int 7]
def aboutOver (below : List Frame) : State where
  vm := { classes := classes, interned := interned.toArray }
  heap := heap
  slotsUsed := slotsUsed
  threads := #[{ frames := .invoking theMethod args0 :: below }]
def below0 : List Frame := [.native { method := ⟨0, 0⟩, args := #[] }]
def about1 : State := aboutOver below0
def p0 : Program := .bare "" "" ""
def e0 : Env := launch0.env 0 0 0
theorem w_frames : about1.frames = Frame.invoking theMethod args0 :: below0 := rfl
set_option maxRecDepth 65536 in
theorem w_args : argsFit about1.vm theMethod args0 = true := by decide +kernel
set_option maxRecDepth 65536 in
theorem w_heap : heapFits about1 = true := by decide +kernel
set_option maxRecDepth 65536 in
theorem w_runnable : about1.curStatus? = some .runnable := by decide +kernel
set_option maxRecDepth 65536 in
theorem w_alone : about1.alone = true := by decide +kernel
set_option maxRecDepth 65536 in
theorem w_named : about1.methodNamed? x = some theMethod := by decide +kernel
set_option maxRecDepth 65536 in
theorem w_hears : about1.hears theMethod below0 = true := by decide +kernel
set_option maxRecDepth 65536 in
theorem w_ripe : about1.ripe theMethod args0 below0 = true := by decide +kernel
theorem w_running : about1.status = .running := rfl
set_option maxRecDepth 65536 in
theorem w_room : about1.hasRoom e0.platform room_1 = true :=
  launch0.hasRoom_least _ room_1 (by decide +kernel) (by decide +kernel) (by decide +kernel) (by decide +kernel) (by decide +kernel) (by decide +kernel)
theorem allAtoms_all (ts : List Jvm.Cond) (a : Array Jvm.Value) (st : Jvm.State) : (allAtoms ts).before a st = ts.all (fun c => c.before a st) := by
  induction ts with
  | nil => rfl
  | cons c t ih =>
    show (Jvm.Cond.and c (allAtoms t)).before a st = _
    rw [Jvm.Cond.before_and, ih, List.all_cons]
def words1 : List Jvm.Cond := Jvm.Cond.code x code maxLocals ret :: tables_1
/-- a 'code' word, met by the world's own term for the bytes: nothing is compared byte by byte -/
theorem code_word {y : MethodName} {bytes : ByteArray} {mx : Nat} {rt : Option FieldType} {a : Array Value} {s : State} {m : MethodId} {meth : Method} {c : Code} (h1 : s.methodNamed? y = some m) (h2 : s.vm.method? m = some meth) (h3 : meth.code = some c) (h4 : c.code = bytes)
    (h5 : (c.maxLocals == mx && c.exceptionTable.isEmpty && decide (c.maxStack ≤ mostOperands) && decide (meth.sig.returnType = rt) && !meth.locks && decide (parseMethodDescriptor y.desc = some meth.sig)) = true) : (Jvm.Cond.code y bytes mx rt).before a s = true := by
  simp only [Bool.and_eq_true, beq_iff_eq, Bool.not_eq_true', decide_eq_true_eq] at h5
  obtain ⟨⟨⟨⟨⟨g1, g2⟩, g3⟩, g4⟩, g5⟩, g6⟩ := h5
  simp [Cond.before, Cond.holds, Cond.value, h1, h2, h3, h4, g1, g2, g3, g4, g5, g6]
def isCode : Jvm.Cond → Bool
  | .code _ _ _ _ => true
  | _ => false
theorem all_split {L : List Jvm.Cond} {P : Jvm.Cond → Bool} (h1 : L.all (fun c => isCode c || P c) = true) (h2 : ∀ c ∈ L.filter isCode, P c = true) : L.all P = true := by
  refine List.all_eq_true.mpr fun c hc => ?_
  have h := List.all_eq_true.mp h1 c hc
  rcases Bool.eq_false_or_eq_true (isCode c) with hi | hi
  · exact h2 c (List.mem_filter.mpr ⟨hc, hi⟩)
  · simpa [hi] using h
set_option maxRecDepth 65536 in
theorem w_c0 : (Jvm.Cond.code x code maxLocals ret).before args0 about1 = true := code_word (m := ⟨1, 1⟩) (meth := k1m1) (c := k1c1) (by decide +kernel) rfl rfl rfl (by decide +kernel)
set_option maxRecDepth 65536 in
theorem w_c1 : (Jvm.Cond.code ({ cls := "com/example/term_proximity_ranking/termproximityranking/plm/KernelWeights", name := "<init>", desc := "(Lcom/example/term_proximity_ranking/termproximityranking/plm/Kernel;DI)V" } : Jvm.MethodName) prog_42_method_1_code (13 : Nat) (Option.none : Option Jvm.ClassFile.FieldType)).before args0 about1 = true := code_word (m := ⟨7, 0⟩) (meth := k7m0) (c := k7c0) (by decide +kernel) rfl rfl rfl (by decide +kernel)
set_option maxRecDepth 65536 in
theorem w_c2 : (Jvm.Cond.code ({ cls := "java/lang/Object", name := "<init>", desc := "()V" } : Jvm.MethodName) object_method_1_code (1 : Nat) (Option.none : Option Jvm.ClassFile.FieldType)).before args0 about1 = true := code_word (m := ⟨0, 0⟩) (meth := k0m0) (c := k0c0) (by decide +kernel) rfl rfl rfl (by decide +kernel)
set_option maxRecDepth 65536 in
theorem w_c3 : (Jvm.Cond.code ({ cls := "java/lang/Math", name := "toIntExact", desc := "(J)I" } : Jvm.MethodName) jdk_29_method_43_code (2 : Nat) (Option.some Jvm.ClassFile.FieldType.int)).before args0 about1 = true := code_word (m := ⟨8, 1⟩) (meth := k8m1) (c := k8c1) (by decide +kernel) rfl rfl rfl (by decide +kernel)
set_option maxRecDepth 65536 in
theorem w_c4 : (Jvm.Cond.code ({ cls := "com/example/term_proximity_ranking/termproximityranking/plm/Kernel", name := "weight", desc := "(ID)D" } : Jvm.MethodName) prog_36_method_6_code (4 : Nat) (Option.some Jvm.ClassFile.FieldType.double)).before args0 about1 = true := code_word (m := ⟨6, 0⟩) (meth := k6m0) (c := k6c0) (by decide +kernel) rfl rfl rfl (by decide +kernel)
set_option maxRecDepth 65536 in
theorem w_c5 : (Jvm.Cond.code ({ cls := "com/example/term_proximity_ranking/termproximityranking/plm/Kernel$5", name := "shape", desc := "(D)D" } : Jvm.MethodName) prog_41_method_2_code (3 : Nat) (Option.some Jvm.ClassFile.FieldType.double)).before args0 about1 = true := code_word (m := ⟨9, 0⟩) (meth := k9m0) (c := k9c0) (by decide +kernel) rfl rfl rfl (by decide +kernel)
set_option maxRecDepth 65536 in
theorem w_c6 : (Jvm.Cond.code ({ cls := "com/example/term_proximity_ranking/termproximityranking/plm/KernelWeights", name := "positionLengths", desc := "(I)[D" } : Jvm.MethodName) prog_42_method_4_code (4 : Nat) (Option.some (Jvm.ClassFile.FieldType.array Jvm.ClassFile.FieldType.double))).before args0 about1 = true := code_word (m := ⟨7, 1⟩) (meth := k7m1) (c := k7c1) (by decide +kernel) rfl rfl rfl (by decide +kernel)
set_option maxRecDepth 65536 in
theorem w_c7 : (Jvm.Cond.code ({ cls := "com/example/term_proximity_ranking/termproximityranking/plm/KernelWeightsPositionLengthsPinLaw", name := "tail", desc := "(ZII)D" } : Jvm.MethodName) method_3_code (4 : Nat) (Option.some Jvm.ClassFile.FieldType.double)).before args0 about1 = true := code_word (m := ⟨1, 2⟩) (meth := k1m2) (c := k1c2) (by decide +kernel) rfl rfl rfl (by decide +kernel)
set_option maxRecDepth 65536 in
theorem w_c8 : (Jvm.Cond.code ({ cls := "java/lang/Math", name := "min", desc := "(II)I" } : Jvm.MethodName) jdk_29_method_69_code (2 : Nat) (Option.some Jvm.ClassFile.FieldType.int)).before args0 about1 = true := code_word (m := ⟨8, 2⟩) (meth := k8m2) (c := k8c2) (by decide +kernel) rfl rfl rfl (by decide +kernel)
set_option maxRecDepth 65536 in
theorem w_c9 : (Jvm.Cond.code ({ cls := "com/example/term_proximity_ranking/termproximityranking/plm/Kernel$2", name := "shape", desc := "(D)D" } : Jvm.MethodName) prog_38_method_2_code (3 : Nat) (Option.some Jvm.ClassFile.FieldType.double)).before args0 about1 = true := code_word (m := ⟨10, 0⟩) (meth := k10m0) (c := k10c0) (by decide +kernel) rfl rfl rfl (by decide +kernel)
def codes1 : List Jvm.Cond := [Jvm.Cond.code x code maxLocals ret, Jvm.Cond.code ({ cls := "com/example/term_proximity_ranking/termproximityranking/plm/KernelWeights", name := "<init>", desc := "(Lcom/example/term_proximity_ranking/termproximityranking/plm/Kernel;DI)V" } : Jvm.MethodName) prog_42_method_1_code (13 : Nat) (Option.none : Option Jvm.ClassFile.FieldType), Jvm.Cond.code ({ cls := "java/lang/Object", name := "<init>", desc := "()V" } : Jvm.MethodName) object_method_1_code (1 : Nat) (Option.none : Option Jvm.ClassFile.FieldType), Jvm.Cond.code ({ cls := "java/lang/Math", name := "toIntExact", desc := "(J)I" } : Jvm.MethodName) jdk_29_method_43_code (2 : Nat) (Option.some Jvm.ClassFile.FieldType.int), Jvm.Cond.code ({ cls := "com/example/term_proximity_ranking/termproximityranking/plm/Kernel", name := "weight", desc := "(ID)D" } : Jvm.MethodName) prog_36_method_6_code (4 : Nat) (Option.some Jvm.ClassFile.FieldType.double), Jvm.Cond.code ({ cls := "com/example/term_proximity_ranking/termproximityranking/plm/Kernel$5", name := "shape", desc := "(D)D" } : Jvm.MethodName) prog_41_method_2_code (3 : Nat) (Option.some Jvm.ClassFile.FieldType.double), Jvm.Cond.code ({ cls := "com/example/term_proximity_ranking/termproximityranking/plm/KernelWeights", name := "positionLengths", desc := "(I)[D" } : Jvm.MethodName) prog_42_method_4_code (4 : Nat) (Option.some (Jvm.ClassFile.FieldType.array Jvm.ClassFile.FieldType.double)), Jvm.Cond.code ({ cls := "com/example/term_proximity_ranking/termproximityranking/plm/KernelWeightsPositionLengthsPinLaw", name := "tail", desc := "(ZII)D" } : Jvm.MethodName) method_3_code (4 : Nat) (Option.some Jvm.ClassFile.FieldType.double), Jvm.Cond.code ({ cls := "java/lang/Math", name := "min", desc := "(II)I" } : Jvm.MethodName) jdk_29_method_69_code (2 : Nat) (Option.some Jvm.ClassFile.FieldType.int), Jvm.Cond.code ({ cls := "com/example/term_proximity_ranking/termproximityranking/plm/Kernel$2", name := "shape", desc := "(D)D" } : Jvm.MethodName) prog_38_method_2_code (3 : Nat) (Option.some Jvm.ClassFile.FieldType.double)]
set_option maxRecDepth 65536 in
theorem codes_eq : words1.filter isCode = codes1 := rfl
theorem w_codes : ∀ c ∈ words1.filter isCode, c.before args0 about1 = true := by
  rw [codes_eq]
  intro c hc
  simp only [codes1, List.mem_cons, List.not_mem_nil, or_false] at hc
  rcases hc with rfl | rfl | rfl | rfl | rfl | rfl | rfl | rfl | rfl | rfl
  · exact w_c0
  · exact w_c1
  · exact w_c2
  · exact w_c3
  · exact w_c4
  · exact w_c5
  · exact w_c6
  · exact w_c7
  · exact w_c8
  · exact w_c9
set_option maxRecDepth 65536 in
theorem w_t1 : (words1.take 24).all (fun c => isCode c || c.before args0 about1) = true := by decide +kernel
set_option maxRecDepth 65536 in
theorem w_t2 : ((words1.drop 24).take 24).all (fun c => isCode c || c.before args0 about1) = true := by decide +kernel
set_option maxRecDepth 65536 in
theorem w_t3 : ((words1.drop 24).drop 24).all (fun c => isCode c || c.before args0 about1) = true := by decide +kernel
theorem w_tables : (allAtoms (Jvm.Cond.code x code maxLocals ret :: tables_1)).before args0 about1 = true := by
  rw [allAtoms_all]
  show words1.all (fun c => c.before args0 about1) = true
  refine all_split ?_ w_codes
  rw [← List.take_append_drop 24 words1, List.all_append, w_t1, ← List.take_append_drop 24 (words1.drop 24), List.all_append, w_t2, w_t3]
  rfl
set_option maxRecDepth 65536 in
theorem w_case : (Jvm.Cond.and given_1 narrow_1).before args0 about1 = true := by decide +kernel
theorem w_applies : (headSpec (Jvm.Cond.code x code maxLocals ret :: tables_1) room_1).applies x e0.platform about1 = true :=
  (Spec.applies_iff w_frames).mpr ⟨w_running, w_runnable, w_alone, w_named, w_hears, w_ripe, w_room, w_tables⟩
theorem atStart : AtStart classFile x code maxLocals ret World_1 tables_1 room_1 Calls_1 rest_1 Pre_1 launch0 p0 e0 about1 theMethod args0 below0 :=
  ⟨lists_1, trivial, launch0.admits_env _ _ _, launch0.least_env, fairChoices_fair.cas, fairChoices_fair.clock, w_frames, w_args, w_heap, w_applies, trivial, trivial, w_case⟩
end start1
theorem witness_1 : WitnessClaimed_1 := ⟨start1.p0, start1.e0, start1.about1, start1.theMethod, start1.args0, start1.below0, start1.atStart⟩
end Jvm.Pilot.@@N@@
