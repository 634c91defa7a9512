import JvmDerived
import JvmDerived.Pilot.@@N@@Statement
import JvmDerived.Pilot.@@N@@Code
set_option linter.unusedVariables false
set_option linter.unusedSimpArgs false
namespace Jvm.Pilot.@@N@@
open Jvm Jvm.ClassFile Sem Op Lib Jvm.Free Jvm.Stand Jvm.LawKit Jvm.RoadKit Bundle Jvm.Pilot.@@N@@.Jvm.D
/-! OWN PRELUDE. What the walk knows of the objects that it made: a list of (address, what stands there): an array with its components, or an object with its fields. -/
abbrev oDsc : Type := Sum (FieldType × List Value) (String × List (String × String × String × Value))
abbrev oDs : Type := List (Addr × oDsc)
def oAt (Z : State) (h : Heap) (a : Addr) (d : oDsc) : Prop := match d with
  | .inl (ty, vs) => ∃ c : Cell, Arr Z h a c ty ∧ c.slots = vs.toArray
  | .inr (C, fs) => Exa Z h a C ∧ ∀ f ∈ fs, Fld Z h a f.1 f.2.1 f.2.2.1 f.2.2.2
def oMem (Z : State) (h0 h : Heap) (ds : oDs) : Prop :=
  Ext h0 h ∧ (∀ (i j : Nat) (x y : Addr × oDsc), i < j → ds[i]? = some x → ds[j]? = some y → x.1 < y.1) ∧ ∀ (i : Nat) (x : Addr × oDsc), ds[i]? = some x → h0.size ≤ x.1 ∧ oAt Z h x.1 x.2
theorem oExt_refl (h : Heap) : Ext h h := ⟨Nat.le_refl _, fun _ _ q => q⟩
theorem oMem.start (Z : State) (h : Heap) : oMem Z h h [] := ⟨oExt_refl h, fun _ _ _ _ _ q => by simp at q, fun _ _ q => by simp at q⟩
theorem oAt.lt {Z : State} {h : Heap} {a : Addr} {d : oDsc} (A : oAt Z h a d) : a < h.size := by
  rcases d with ⟨ty, vs⟩ | ⟨C, fs⟩
  · obtain ⟨c, A, -⟩ := A; exact A.lt
  · exact A.1.lt
theorem oAt.ext {Z : State} {h h' : Heap} {a : Addr} {d : oDsc} (A : oAt Z h a d) (E : Ext h h') : oAt Z h' a d := by
  rcases d with ⟨ty, vs⟩ | ⟨C, fs⟩
  · obtain ⟨c, A, q⟩ := A; exact ⟨c, A.ext E, q⟩
  · exact ⟨A.1.ext E, fun f hf => (A.2 f hf).ext E⟩
theorem oAt.other {Z : State} {h h' : Heap} {a b : Addr} {sl : Nat} {v : Value} {d : oDsc} (A : oAt Z h b d) (W : Wr h h' a sl v) (q : b ≠ a) : oAt Z h' b d := by
  rcases d with ⟨ty, vs⟩ | ⟨C, fs⟩
  · obtain ⟨c, A, r⟩ := A; exact ⟨c, A.other W q, r⟩
  · exact ⟨A.1.wr W, fun f hf => (A.2 f hf).other W (Or.inl q)⟩
theorem oMem.push {Z : State} {h0 h h' : Heap} {ds : oDs} {d : oDsc} (M : oMem Z h0 h ds) (E : Ext h h') (A : oAt Z h' h.size d) : oMem Z h0 h' (ds ++ [(h.size, d)]) := by
  obtain ⟨M1, M2, M3⟩ := M
  refine ⟨⟨Nat.le_trans M1.1 E.1, fun a c q => E.2 a c (M1.2 a c q)⟩, fun i j x y hij hi hj => ?_, fun i x hi => ?_⟩
  · rw [List.getElem?_append] at hi hj
    split at hj
    · rw [if_pos (by omega)] at hi; exact M2 i j x y hij hi hj
    · rename_i nj
      have hjl : j - ds.length = 0 := by
        rcases Nat.eq_zero_or_pos (j - ds.length) with q | q
        · exact q
        · rw [List.getElem?_eq_none (by simp; omega)] at hj; cases hj
      rw [hjl] at hj; cases hj
      rw [if_pos (by omega)] at hi
      exact (M3 i x hi).2.lt
  · rw [List.getElem?_append] at hi
    split at hi
    · exact ⟨(M3 i x hi).1, (M3 i x hi).2.ext E⟩
    · rename_i ni
      have hil : i - ds.length = 0 := by
        rcases Nat.eq_zero_or_pos (i - ds.length) with q | q
        · exact q
        · rw [List.getElem?_eq_none (by simp; omega)] at hi; cases hi
      rw [hil] at hi; cases hi
      exact ⟨M1.1, A⟩
theorem oMem.put {Z : State} {h0 h h' : Heap} {ds : oDs} {i : Nat} {a : Addr} {d d' : oDsc} {sl : Nat} {v : Value} (M : oMem Z h0 h ds) (hi : ds[i]? = some (a, d)) (W : Wr h h' a sl v) (A : oAt Z h' a d') : oMem Z h0 h' (ds.set i (a, d')) := by
  obtain ⟨M1, M2, M3⟩ := M
  have ha := (M3 i _ hi).1
  have hlt : i < ds.length := (List.getElem?_eq_some_iff.mp hi).1
  have fst : ∀ (j : Nat) (x : Addr × oDsc), (ds.set i (a, d'))[j]? = some x → ∃ y : Addr × oDsc, ds[j]? = some y ∧ y.1 = x.1 := fun j x hx => by
    rw [List.getElem?_set] at hx
    split at hx
    · rename_i e; subst e; cases hx; exact ⟨_, hi, rfl⟩
    · exact ⟨x, hx, rfl⟩
  refine ⟨⟨Nat.le_trans M1.1 (Nat.le_of_eq W.size.symm), fun x c q => ?_⟩, fun j k x y hjk hj hk => ?_, fun j x hx => ?_⟩
  · obtain ⟨c', q1, -, -, -, q5, -⟩ := wr_at W (M1.2 x c q)
    have : x ≠ a := Nat.ne_of_lt (Nat.lt_of_lt_of_le (Array.getElem?_eq_some_iff.mp q).1 ha)
    rw [← q5 this]; exact q1
  · obtain ⟨x', hx', ex⟩ := fst j x hj
    obtain ⟨y', hy', ey⟩ := fst k y hk
    rw [← ex, ← ey]; exact M2 j k x' y' hjk hx' hy'
  · rw [List.getElem?_set] at hx
    split at hx
    · rename_i e; subst e; cases hx; exact ⟨ha, A⟩
    · rename_i e
      refine ⟨(M3 j x hx).1, (M3 j x hx).2.other W fun q => ?_⟩
      rcases Nat.lt_or_gt_of_ne e with r | r
      · have := M2 i j _ _ r hi hx; rw [q] at this; exact Nat.lt_irrefl _ this
      · have := M2 j i _ _ r hx hi; rw [q] at this; exact Nat.lt_irrefl _ this
/-- the fields' places are unlike -/
def oApart (Z : State) (fs : List (String × String × String × Value)) : Prop :=
  ∀ (i j : Nat) (f g : String × String × String × Value), i ≠ j → fs[i]? = some f → fs[j]? = some g → Jvm.RoadKit.slotOf Z f.1 f.2.1 f.2.2.1 ≠ Jvm.RoadKit.slotOf Z g.1 g.2.1 g.2.2.1
theorem oApart.of {Z : State} {a0 : Array Value} {C : String} {fs : List (String × String × String × Value)} (hL : ∀ f ∈ fs, Laid Z a0 C f.1 f.2.1 f.2.2.1 ∧ ∃ t, parseFieldDescriptor f.2.2.1 = some t) (hn : (fs.map fun f => f.2.1).Nodup) : oApart Z fs := fun i j f g hij hi hj => by
  obtain ⟨L1, t1, p1⟩ := hL f (List.mem_of_getElem? hi)
  obtain ⟨L2, t2, p2⟩ := hL g (List.mem_of_getElem? hj)
  refine slot_ne L1 L2 (fun q => hij ?_) p1 p2
  have e1 : (fs.map fun f => f.2.1)[i]? = some f.2.1 := by rw [List.getElem?_map, hi]; rfl
  have e2 : (fs.map fun f => f.2.1)[j]? = some g.2.1 := by rw [List.getElem?_map, hj]; rfl
  rw [q] at e1
  have l1 := (List.getElem?_eq_some_iff.mp e1).1
  exact (List.getElem?_inj l1 hn).mp (e1.trans e2.symm)
/-- what a walk's texts share: the machine, the tables, the body's bytes, its class, its result's type, its name -/
def oK (p : Program) (s : State) (m : MethodId) (meth : Method) (c : Code) (Z : State) (own : String) (by0 : ByteArray) (ml : Nat) (ret : Option FieldType) (nm : String) : Prop :=
  (p.tables.exec = Jvm.exec ∧ Z.Warmed39 s.vm ∧ c.code = by0 ∧ c.maxLocals = ml) ∧ s.vm.findClass own = some m.cls ∧ meth.sig.returnType = ret ∧ meth.locks = false ∧ meth.name = nm
/-- the walk stands at T, knows ds of what it made, and has booked cells and slots -/
def oIn (p : Program) (l : Launch) (e : Env) (R : Room) (s : State) (m : MethodId) (args : Array Value) (below : List Frame) (meth : Method) (c : Code) (Z : State) (h0 : Heap) (T : State) (ds : oDs) (cells slots : Nat) : Prop :=
  ∃ locs, Stand p l e R s m args below meth c T locs cells slots ∧ Fr h0.size locs ∧ oMem Z h0 T.heap ds
/-- the run from T with the frame g returns, and P holds of what it returns and of what it leaves -/
def oEnds (p : Program) (e : Env) (R : Room) (s : State) (below : List Frame) (Z : State) (h0 : Heap) (P : Option Value → oDs → Prop) (T : State) (g : JFrame) : Prop :=
  ∃ s₂ o, Steps p.tables e below (T.setTop g) s₂ ∧ s₂.status = .running ∧ Ended s₂ below o ∧ ∃ v L, o = .returned v ∧ (Fr h0.size L ∧ ∃ ds', P v ds' ∧ oMem Z h0 s₂.heap ds') ∧ FrameEnd s o s₂ L R.cells R.slots
/-- from every state that knows ds, at pc with these locals and this stack, the body returns as P says -/
def oW (p : Program) (l : Launch) (e : Env) (R : Room) (s : State) (m : MethodId) (args : Array Value) (below : List Frame) (meth : Method) (c : Code) (Z : State) (h0 : Heap) (P : Option Value → oDs → Prop) (ds : oDs) (cells slots pc : Nat) (Ls : Array Slot) (S : List Value) : Prop :=
  ∀ T, oIn p l e R s m args below meth c Z h0 T ds cells slots → oEnds p e R s below Z h0 P T (mkF m pc Ls S)
/-- a body's contract: called with as' where the objects made are ds, it returns as P says, within the room rm -/
def oCtr (l : Launch) (Z : State) (h0 : Heap) (ws : List Jvm.Cond) (y : MethodName) (by0 : ByteArray) (ml : Nat) (ret : Option FieldType) (rm : Room) (as' : Array Value) (ds : oDs) (P : Option Value → oDs → Prop) : Prop :=
  ∀ h, oMem Z h0 h ds → MetFree l y (head1 (Jvm.Cond.code y by0 ml ret :: ws) rm) (fun a U => a = as' ∧ Z.Warmed39 U.vm ∧ U.heap = h) (fun _ _ _ _ _ => True)
    (fun _ U o U' => ∃ v L, o = .returned v ∧ (Fr h0.size L ∧ ∃ ds', P v ds' ∧ oMem Z h0 U'.heap ds') ∧ FrameEnd U o U' L rm.cells rm.slots)
def oVal (P2 : Value → oDs → Prop) (v : Option Value) (ds : oDs) : Prop := ∃ w, v = some w ∧ P2 w ds
def oVoid (P3 : oDs → Prop) (v : Option Value) (ds : oDs) : Prop := v = none ∧ P3 ds
theorem oCtr.of {l : Launch} {Z : State} {h0 : Heap} {ws : List Jvm.Cond} {y : MethodName} {by0 : ByteArray} {ml : Nat} {ret : Option FieldType} {rm : Room} {as' : Array Value} {ds : oDs} {P : Option Value → oDs → Prop} {Ls : Array Slot}
    (hpl : plainFor y = true) (hef : ∀ m, entryFrame m as' ml = mkF m 0 Ls [])
    (hb : ∀ p e s m below meth c, oK p s m meth c Z y.cls by0 ml ret y.name → oW p l e rm s m as' below meth c Z h0 P ds 0 0 0 Ls []) : oCtr l Z h0 ws y by0 ml ret rm as' ds P := by
  intro h M
  refine MetFree.of_bodySF hpl hisR ?_
  intro p e s m args below meth c s₁ Bd hml0 hP hK
  obtain ⟨rfl, hZ, hh⟩ := hP
  have e0 : s₁.heap = h := by rw [← hh, Bd.state]; rfl
  have K : oK p s m meth c Z y.cls by0 ml ret y.name := ⟨⟨Bd.exec, hZ, Bd.bytes, hml0⟩, findClass_of_methodNamed Bd.named, Bd.returns, Bd.notSynchronized, (name_of_methodNamed Bd.named Bd.method).1⟩
  obtain ⟨s₂, o, h1, h2⟩ := hb p e s m below meth c K s₁ ⟨[], Stand.of_body Bd, Fr.nil _, by rw [e0]; exact M⟩
  exact ⟨s₂, o, castTop (hef m) h1, h2⟩
section Steps
variable {p : Program} {l : Launch} {e : Env} {R : Room} {s : State} {m : MethodId} {args : Array Value} {below : List Frame} {meth : Method} {c : Code} {Z : State} {h0 : Heap} {own nm : String} {by0 : ByteArray} {ml : Nat} {ret : Option FieldType} {P : Option Value → oDs → Prop} {ds ds' : oDs} {cells slots pc pc' : Nat} {Ls Ls' : Array Slot} {S S' : List Value} {a0 : Array Value}
theorem oW.pure (st : ∀ T locs, Stand p l e R s m args below meth c T locs cells slots → ∀ t, Steps p.tables e below (T.setTop (mkF m pc' Ls' S')) t → Steps p.tables e below (T.setTop (mkF m pc Ls S)) t) (hr : oW p l e R s m args below meth c Z h0 P ds cells slots pc' Ls' S') : oW p l e R s m args below meth c Z h0 P ds cells slots pc Ls S := by
  rintro T ⟨locs, X, N, M⟩
  obtain ⟨s₂, o, h1, h2⟩ := hr T ⟨locs, X, N, M⟩
  exact ⟨s₂, o, st T locs X _ h1, h2⟩
theorem oW.ends {T T' : State} {g g' : JFrame} (st : ∀ t, Steps p.tables e below (T'.setTop g') t → Steps p.tables e below (T.setTop g) t) (hr : oEnds p e R s below Z h0 P T' g') : oEnds p e R s below Z h0 P T g := by
  obtain ⟨s₂, o, h1, h2⟩ := hr
  exact ⟨s₂, o, st _ h1, h2⟩
theorem oW.join {α : Type} {F : α → Prop} {pcj : Nat} {Lf : α → Array Slot} {Sf : α → List Value} {dsf : α → oDs} (h1 : (∀ z, F z → oW p l e R s m args below meth c Z h0 P (dsf z) cells slots pcj (Lf z) (Sf z)) → oW p l e R s m args below meth c Z h0 P ds cells slots pc Ls S) (h2 : ∀ z, F z → oW p l e R s m args below meth c Z h0 P (dsf z) cells slots pcj (Lf z) (Sf z)) : oW p l e R s m args below meth c Z h0 P ds cells slots pc Ls S := h1 h2
theorem oW.iload (K : oK p s m meth c Z own by0 ml ret nm) {k : Nat} {v : Int32} (hd : decode by0 pc = .ok (.iload k, 2)) (hl : Ls[k]? = some (.val (.int v))) (hp : pc + 2 = pc') (hr : oW p l e R s m args below meth c Z h0 P ds cells slots pc' Ls (.int v :: S)) : oW p l e R s m args below meth c Z h0 P ds cells slots pc Ls (S) := by
  subst hp
  exact oW.pure (fun T locs X t k => XS.iload X.here K.1.1 rfl (hb K.1.2.2.1 hd) hl k) hr
theorem oW.iloadN (K : oK p s m meth c Z own by0 ml ret nm) {k : Fin 4} {v : Int32} (hd : decode by0 pc = .ok (.iload_n k, 1)) (hl : Ls[k.val]? = some (.val (.int v))) (hp : pc + 1 = pc') (hr : oW p l e R s m args below meth c Z h0 P ds cells slots pc' Ls (.int v :: S)) : oW p l e R s m args below meth c Z h0 P ds cells slots pc Ls (S) := by
  subst hp
  exact oW.pure (fun T locs X t k => XS.iloadN X.here K.1.1 rfl (hb K.1.2.2.1 hd) hl k) hr
theorem oW.istore (K : oK p s m meth c Z own by0 ml ret nm) {k : Nat} {v : Int32} (hd : decode by0 pc = .ok (.istore k, 2)) (hl : storeLocals Ls k (.int v) = some Ls') (hp : pc + 2 = pc') (hr : oW p l e R s m args below meth c Z h0 P ds cells slots pc' Ls' (S)) : oW p l e R s m args below meth c Z h0 P ds cells slots pc Ls (.int v :: S) := by
  subst hp
  exact oW.pure (fun T locs X t k => XS.istore X.here K.1.1 rfl (hb K.1.2.2.1 hd) rfl hl k) hr
theorem oW.istoreN (K : oK p s m meth c Z own by0 ml ret nm) {k : Fin 4} {v : Int32} (hd : decode by0 pc = .ok (.istore_n k, 1)) (hl : storeLocals Ls k.val (.int v) = some Ls') (hp : pc + 1 = pc') (hr : oW p l e R s m args below meth c Z h0 P ds cells slots pc' Ls' (S)) : oW p l e R s m args below meth c Z h0 P ds cells slots pc Ls (.int v :: S) := by
  subst hp
  exact oW.pure (fun T locs X t k => XS.istoreN X.here K.1.1 rfl (hb K.1.2.2.1 hd) rfl hl k) hr
theorem oW.lload (K : oK p s m meth c Z own by0 ml ret nm) {k : Nat} {v : Int64} (hd : decode by0 pc = .ok (.lload k, 2)) (hl : Ls[k]? = some (.val (.long v))) (hp : pc + 2 = pc') (hr : oW p l e R s m args below meth c Z h0 P ds cells slots pc' Ls (.long v :: S)) : oW p l e R s m args below meth c Z h0 P ds cells slots pc Ls (S) := by
  subst hp
  exact oW.pure (fun T locs X t k => XS.lload X.here K.1.1 rfl (hb K.1.2.2.1 hd) hl k) hr
theorem oW.lloadN (K : oK p s m meth c Z own by0 ml ret nm) {k : Fin 4} {v : Int64} (hd : decode by0 pc = .ok (.lload_n k, 1)) (hl : Ls[k.val]? = some (.val (.long v))) (hp : pc + 1 = pc') (hr : oW p l e R s m args below meth c Z h0 P ds cells slots pc' Ls (.long v :: S)) : oW p l e R s m args below meth c Z h0 P ds cells slots pc Ls (S) := by
  subst hp
  exact oW.pure (fun T locs X t k => XS.lloadN X.here K.1.1 rfl (hb K.1.2.2.1 hd) hl k) hr
theorem oW.lstore (K : oK p s m meth c Z own by0 ml ret nm) {k : Nat} {v : Int64} (hd : decode by0 pc = .ok (.lstore k, 2)) (hl : storeLocals Ls k (.long v) = some Ls') (hp : pc + 2 = pc') (hr : oW p l e R s m args below meth c Z h0 P ds cells slots pc' Ls' (S)) : oW p l e R s m args below meth c Z h0 P ds cells slots pc Ls (.long v :: S) := by
  subst hp
  exact oW.pure (fun T locs X t k => XS.lstore X.here K.1.1 rfl (hb K.1.2.2.1 hd) rfl hl k) hr
theorem oW.lstoreN (K : oK p s m meth c Z own by0 ml ret nm) {k : Fin 4} {v : Int64} (hd : decode by0 pc = .ok (.lstore_n k, 1)) (hl : storeLocals Ls k.val (.long v) = some Ls') (hp : pc + 1 = pc') (hr : oW p l e R s m args below meth c Z h0 P ds cells slots pc' Ls' (S)) : oW p l e R s m args below meth c Z h0 P ds cells slots pc Ls (.long v :: S) := by
  subst hp
  exact oW.pure (fun T locs X t k => XS.lstoreN X.here K.1.1 rfl (hb K.1.2.2.1 hd) rfl hl k) hr
theorem oW.dload (K : oK p s m meth c Z own by0 ml ret nm) {k : Nat} {v : UInt64} (hd : decode by0 pc = .ok (.dload k, 2)) (hl : Ls[k]? = some (.val (.double v))) (hp : pc + 2 = pc') (hr : oW p l e R s m args below meth c Z h0 P ds cells slots pc' Ls (.double v :: S)) : oW p l e R s m args below meth c Z h0 P ds cells slots pc Ls (S) := by
  subst hp
  exact oW.pure (fun T locs X t k => XS.dload X.here K.1.1 rfl (hb K.1.2.2.1 hd) hl k) hr
theorem oW.dloadN (K : oK p s m meth c Z own by0 ml ret nm) {k : Fin 4} {v : UInt64} (hd : decode by0 pc = .ok (.dload_n k, 1)) (hl : Ls[k.val]? = some (.val (.double v))) (hp : pc + 1 = pc') (hr : oW p l e R s m args below meth c Z h0 P ds cells slots pc' Ls (.double v :: S)) : oW p l e R s m args below meth c Z h0 P ds cells slots pc Ls (S) := by
  subst hp
  exact oW.pure (fun T locs X t k => XS.dloadN X.here K.1.1 rfl (hb K.1.2.2.1 hd) hl k) hr
theorem oW.dstore (K : oK p s m meth c Z own by0 ml ret nm) {k : Nat} {v : UInt64} (hd : decode by0 pc = .ok (.dstore k, 2)) (hl : storeLocals Ls k (.double v) = some Ls') (hp : pc + 2 = pc') (hr : oW p l e R s m args below meth c Z h0 P ds cells slots pc' Ls' (S)) : oW p l e R s m args below meth c Z h0 P ds cells slots pc Ls (.double v :: S) := by
  subst hp
  exact oW.pure (fun T locs X t k => XS.dstore X.here K.1.1 rfl (hb K.1.2.2.1 hd) rfl hl k) hr
theorem oW.dstoreN (K : oK p s m meth c Z own by0 ml ret nm) {k : Fin 4} {v : UInt64} (hd : decode by0 pc = .ok (.dstore_n k, 1)) (hl : storeLocals Ls k.val (.double v) = some Ls') (hp : pc + 1 = pc') (hr : oW p l e R s m args below meth c Z h0 P ds cells slots pc' Ls' (S)) : oW p l e R s m args below meth c Z h0 P ds cells slots pc Ls (.double v :: S) := by
  subst hp
  exact oW.pure (fun T locs X t k => XS.dstoreN X.here K.1.1 rfl (hb K.1.2.2.1 hd) rfl hl k) hr
theorem oW.aload (K : oK p s m meth c Z own by0 ml ret nm) {k : Nat} {v : Value} (hd : decode by0 pc = .ok (.aload k, 2)) (hl : Ls[k]? = some (.val v)) (hv : v.isRef = true) (hp : pc + 2 = pc') (hr : oW p l e R s m args below meth c Z h0 P ds cells slots pc' Ls (v :: S)) : oW p l e R s m args below meth c Z h0 P ds cells slots pc Ls (S) := by
  subst hp
  exact oW.pure (fun T locs X t k => XS.aload X.here K.1.1 rfl (hb K.1.2.2.1 hd) hl hv k) hr
theorem oW.aloadN (K : oK p s m meth c Z own by0 ml ret nm) {k : Fin 4} {v : Value} (hd : decode by0 pc = .ok (.aload_n k, 1)) (hl : Ls[k.val]? = some (.val v)) (hv : v.isRef = true) (hp : pc + 1 = pc') (hr : oW p l e R s m args below meth c Z h0 P ds cells slots pc' Ls (v :: S)) : oW p l e R s m args below meth c Z h0 P ds cells slots pc Ls (S) := by
  subst hp
  exact oW.pure (fun T locs X t k => XS.aloadN X.here K.1.1 rfl (hb K.1.2.2.1 hd) hl hv k) hr
theorem oW.astore (K : oK p s m meth c Z own by0 ml ret nm) {k : Nat} {v : Value} (hd : decode by0 pc = .ok (.astore k, 2)) (hv : v.isRef = true) (hl : storeLocals Ls k v = some Ls') (hp : pc + 2 = pc') (hr : oW p l e R s m args below meth c Z h0 P ds cells slots pc' Ls' (S)) : oW p l e R s m args below meth c Z h0 P ds cells slots pc Ls (v :: S) := by
  subst hp
  exact oW.pure (fun T locs X t k => XS.astore X.here K.1.1 rfl (hb K.1.2.2.1 hd) rfl hv hl k) hr
theorem oW.astoreN (K : oK p s m meth c Z own by0 ml ret nm) {k : Fin 4} {v : Value} (hd : decode by0 pc = .ok (.astore_n k, 1)) (hv : v.isRef = true) (hl : storeLocals Ls k.val v = some Ls') (hp : pc + 1 = pc') (hr : oW p l e R s m args below meth c Z h0 P ds cells slots pc' Ls' (S)) : oW p l e R s m args below meth c Z h0 P ds cells slots pc Ls (v :: S) := by
  subst hp
  exact oW.pure (fun T locs X t k => XS.astoreN X.here K.1.1 rfl (hb K.1.2.2.1 hd) rfl hv hl k) hr
theorem oW.aconstNull (K : oK p s m meth c Z own by0 ml ret nm)  (hd : decode by0 pc = .ok (.aconst_null, 1))  (hp : pc + 1 = pc') (hr : oW p l e R s m args below meth c Z h0 P ds cells slots pc' Ls (.null :: S)) : oW p l e R s m args below meth c Z h0 P ds cells slots pc Ls (S) := by
  subst hp
  exact oW.pure (fun T locs X t k => XS.aconstNull X.here K.1.1 rfl (hb K.1.2.2.1 hd) k) hr
theorem oW.iconst (K : oK p s m meth c Z own by0 ml ret nm) {i : Int} {v : Int32} (hd : decode by0 pc = .ok (.iconst i, 1)) (hv : v = Int32.ofInt i) (hp : pc + 1 = pc') (hr : oW p l e R s m args below meth c Z h0 P ds cells slots pc' Ls (.int v :: S)) : oW p l e R s m args below meth c Z h0 P ds cells slots pc Ls (S) := by
  subst hp hv
  exact oW.pure (fun T locs X t k => XS.iconst X.here K.1.1 rfl (hb K.1.2.2.1 hd) k) hr
theorem oW.bipush (K : oK p s m meth c Z own by0 ml ret nm) {i : Int} {v : Int32} (hd : decode by0 pc = .ok (.bipush i, 2)) (hv : v = (Int8.ofInt i).toInt32) (hp : pc + 2 = pc') (hr : oW p l e R s m args below meth c Z h0 P ds cells slots pc' Ls (.int v :: S)) : oW p l e R s m args below meth c Z h0 P ds cells slots pc Ls (S) := by
  subst hp hv
  exact oW.pure (fun T locs X t k => XS.bipush X.here K.1.1 rfl (hb K.1.2.2.1 hd) k) hr
theorem oW.sipush (K : oK p s m meth c Z own by0 ml ret nm) {i : Int} {v : Int32} (hd : decode by0 pc = .ok (.sipush i, 3)) (hv : v = (Int16.ofInt i).toInt32) (hp : pc + 3 = pc') (hr : oW p l e R s m args below meth c Z h0 P ds cells slots pc' Ls (.int v :: S)) : oW p l e R s m args below meth c Z h0 P ds cells slots pc Ls (S) := by
  subst hp hv
  exact oW.pure (fun T locs X t k => XS.sipush X.here K.1.1 rfl (hb K.1.2.2.1 hd) k) hr
theorem oW.lconst (K : oK p s m meth c Z own by0 ml ret nm) {k : Fin 2} {v : Int64} (hd : decode by0 pc = .ok (.lconst k, 1)) (hv : v = Int64.ofNat k.val) (hp : pc + 1 = pc') (hr : oW p l e R s m args below meth c Z h0 P ds cells slots pc' Ls (.long v :: S)) : oW p l e R s m args below meth c Z h0 P ds cells slots pc Ls (S) := by
  subst hp hv
  exact oW.pure (fun T locs X t k => XT.lconst X.here K.1.1 rfl (hb K.1.2.2.1 hd) k) hr
theorem oW.dconst0 (K : oK p s m meth c Z own by0 ml ret nm)  (hd : decode by0 pc = .ok (.dconst 0, 1))  (hp : pc + 1 = pc') (hr : oW p l e R s m args below meth c Z h0 P ds cells slots pc' Ls (.double 0 :: S)) : oW p l e R s m args below meth c Z h0 P ds cells slots pc Ls (S) := by
  subst hp
  exact oW.pure (fun T locs X t k => XS.dconst0 X.here K.1.1 rfl (hb K.1.2.2.1 hd) rfl k) hr
theorem oW.dconst1 (K : oK p s m meth c Z own by0 ml ret nm)  (hd : decode by0 pc = .ok (.dconst 1, 1))  (hp : pc + 1 = pc') (hr : oW p l e R s m args below meth c Z h0 P ds cells slots pc' Ls (.double 4607182418800017408 :: S)) : oW p l e R s m args below meth c Z h0 P ds cells slots pc Ls (S) := by
  subst hp
  exact oW.pure (fun T locs X t k => XS.dconst1 X.here K.1.1 rfl (hb K.1.2.2.1 hd) rfl k) hr
theorem oW.iadd (K : oK p s m meth c Z own by0 ml ret nm) {x y v : Int32} (hd : decode by0 pc = .ok (.iadd, 1)) (hv : v = x + y) (hp : pc + 1 = pc') (hr : oW p l e R s m args below meth c Z h0 P ds cells slots pc' Ls (.int v :: S)) : oW p l e R s m args below meth c Z h0 P ds cells slots pc Ls (.int y :: .int x :: S) := by
  subst hp hv
  exact oW.pure (fun T locs X t k => XS.iadd X.here K.1.1 rfl (hb K.1.2.2.1 hd) rfl k) hr
theorem oW.ladd (K : oK p s m meth c Z own by0 ml ret nm) {x y v : Int64} (hd : decode by0 pc = .ok (.ladd, 1)) (hv : v = x + y) (hp : pc + 1 = pc') (hr : oW p l e R s m args below meth c Z h0 P ds cells slots pc' Ls (.long v :: S)) : oW p l e R s m args below meth c Z h0 P ds cells slots pc Ls (.long y :: .long x :: S) := by
  subst hp hv
  exact oW.pure (fun T locs X t k => XT.ladd X.here K.1.1 rfl (hb K.1.2.2.1 hd) rfl k) hr
theorem oW.isub (K : oK p s m meth c Z own by0 ml ret nm) {x y v : Int32} (hd : decode by0 pc = .ok (.isub, 1)) (hv : v = x - y) (hp : pc + 1 = pc') (hr : oW p l e R s m args below meth c Z h0 P ds cells slots pc' Ls (.int v :: S)) : oW p l e R s m args below meth c Z h0 P ds cells slots pc Ls (.int y :: .int x :: S) := by
  subst hp hv
  exact oW.pure (fun T locs X t k => XS.isub X.here K.1.1 rfl (hb K.1.2.2.1 hd) rfl k) hr
theorem oW.lsub (K : oK p s m meth c Z own by0 ml ret nm) {x y v : Int64} (hd : decode by0 pc = .ok (.lsub, 1)) (hv : v = x - y) (hp : pc + 1 = pc') (hr : oW p l e R s m args below meth c Z h0 P ds cells slots pc' Ls (.long v :: S)) : oW p l e R s m args below meth c Z h0 P ds cells slots pc Ls (.long y :: .long x :: S) := by
  subst hp hv
  exact oW.pure (fun T locs X t k => XT.lsub X.here K.1.1 rfl (hb K.1.2.2.1 hd) rfl k) hr
theorem oW.imul (K : oK p s m meth c Z own by0 ml ret nm) {x y v : Int32} (hd : decode by0 pc = .ok (.imul, 1)) (hv : v = x * y) (hp : pc + 1 = pc') (hr : oW p l e R s m args below meth c Z h0 P ds cells slots pc' Ls (.int v :: S)) : oW p l e R s m args below meth c Z h0 P ds cells slots pc Ls (.int y :: .int x :: S) := by
  subst hp hv
  exact oW.pure (fun T locs X t k => XS.imul X.here K.1.1 rfl (hb K.1.2.2.1 hd) rfl k) hr
theorem oW.lmul (K : oK p s m meth c Z own by0 ml ret nm) {x y v : Int64} (hd : decode by0 pc = .ok (.lmul, 1)) (hv : v = x * y) (hp : pc + 1 = pc') (hr : oW p l e R s m args below meth c Z h0 P ds cells slots pc' Ls (.long v :: S)) : oW p l e R s m args below meth c Z h0 P ds cells slots pc Ls (.long y :: .long x :: S) := by
  subst hp hv
  exact oW.pure (fun T locs X t k => XT.lmul X.here K.1.1 rfl (hb K.1.2.2.1 hd) rfl k) hr
theorem oW.iand (K : oK p s m meth c Z own by0 ml ret nm) {x y v : Int32} (hd : decode by0 pc = .ok (.iand, 1)) (hv : v = x &&& y) (hp : pc + 1 = pc') (hr : oW p l e R s m args below meth c Z h0 P ds cells slots pc' Ls (.int v :: S)) : oW p l e R s m args below meth c Z h0 P ds cells slots pc Ls (.int y :: .int x :: S) := by
  subst hp hv
  exact oW.pure (fun T locs X t k => XS.iand X.here K.1.1 rfl (hb K.1.2.2.1 hd) rfl k) hr
theorem oW.land (K : oK p s m meth c Z own by0 ml ret nm) {x y v : Int64} (hd : decode by0 pc = .ok (.land, 1)) (hv : v = x &&& y) (hp : pc + 1 = pc') (hr : oW p l e R s m args below meth c Z h0 P ds cells slots pc' Ls (.long v :: S)) : oW p l e R s m args below meth c Z h0 P ds cells slots pc Ls (.long y :: .long x :: S) := by
  subst hp hv
  exact oW.pure (fun T locs X t k => XT.land X.here K.1.1 rfl (hb K.1.2.2.1 hd) rfl k) hr
theorem oW.ior (K : oK p s m meth c Z own by0 ml ret nm) {x y v : Int32} (hd : decode by0 pc = .ok (.ior, 1)) (hv : v = x ||| y) (hp : pc + 1 = pc') (hr : oW p l e R s m args below meth c Z h0 P ds cells slots pc' Ls (.int v :: S)) : oW p l e R s m args below meth c Z h0 P ds cells slots pc Ls (.int y :: .int x :: S) := by
  subst hp hv
  exact oW.pure (fun T locs X t k => XT.ior X.here K.1.1 rfl (hb K.1.2.2.1 hd) rfl k) hr
theorem oW.lor (K : oK p s m meth c Z own by0 ml ret nm) {x y v : Int64} (hd : decode by0 pc = .ok (.lor, 1)) (hv : v = x ||| y) (hp : pc + 1 = pc') (hr : oW p l e R s m args below meth c Z h0 P ds cells slots pc' Ls (.long v :: S)) : oW p l e R s m args below meth c Z h0 P ds cells slots pc Ls (.long y :: .long x :: S) := by
  subst hp hv
  exact oW.pure (fun T locs X t k => XT.lor X.here K.1.1 rfl (hb K.1.2.2.1 hd) rfl k) hr
theorem oW.ixor (K : oK p s m meth c Z own by0 ml ret nm) {x y v : Int32} (hd : decode by0 pc = .ok (.ixor, 1)) (hv : v = x ^^^ y) (hp : pc + 1 = pc') (hr : oW p l e R s m args below meth c Z h0 P ds cells slots pc' Ls (.int v :: S)) : oW p l e R s m args below meth c Z h0 P ds cells slots pc Ls (.int y :: .int x :: S) := by
  subst hp hv
  exact oW.pure (fun T locs X t k => XT.ixor X.here K.1.1 rfl (hb K.1.2.2.1 hd) rfl k) hr
theorem oW.lxor (K : oK p s m meth c Z own by0 ml ret nm) {x y v : Int64} (hd : decode by0 pc = .ok (.lxor, 1)) (hv : v = x ^^^ y) (hp : pc + 1 = pc') (hr : oW p l e R s m args below meth c Z h0 P ds cells slots pc' Ls (.long v :: S)) : oW p l e R s m args below meth c Z h0 P ds cells slots pc Ls (.long y :: .long x :: S) := by
  subst hp hv
  exact oW.pure (fun T locs X t k => XT.lxor X.here K.1.1 rfl (hb K.1.2.2.1 hd) rfl k) hr
theorem oW.idiv (K : oK p s m meth c Z own by0 ml ret nm) {x y v : Int32} (hd : decode by0 pc = .ok (.idiv, 1)) (hy : y ≠ 0) (hv : v = x / y) (hp : pc + 1 = pc') (hr : oW p l e R s m args below meth c Z h0 P ds cells slots pc' Ls (.int v :: S)) : oW p l e R s m args below meth c Z h0 P ds cells slots pc Ls (.int y :: .int x :: S) := by
  subst hp hv
  exact oW.pure (fun T locs X t k => XS.idiv X.here K.1.1 rfl (hb K.1.2.2.1 hd) rfl hy k) hr
theorem oW.irem (K : oK p s m meth c Z own by0 ml ret nm) {x y v : Int32} (hd : decode by0 pc = .ok (.irem, 1)) (hy : y ≠ 0) (hv : v = x % y) (hp : pc + 1 = pc') (hr : oW p l e R s m args below meth c Z h0 P ds cells slots pc' Ls (.int v :: S)) : oW p l e R s m args below meth c Z h0 P ds cells slots pc Ls (.int y :: .int x :: S) := by
  subst hp hv
  exact oW.pure (fun T locs X t k => iremM X K.1.1 rfl (hb K.1.2.2.1 hd) rfl hy k) hr
theorem oW.ineg (K : oK p s m meth c Z own by0 ml ret nm) {x v : Int32} (hd : decode by0 pc = .ok (.ineg, 1)) (hv : v = -x) (hp : pc + 1 = pc') (hr : oW p l e R s m args below meth c Z h0 P ds cells slots pc' Ls (.int v :: S)) : oW p l e R s m args below meth c Z h0 P ds cells slots pc Ls (.int x :: S) := by
  subst hp hv
  exact oW.pure (fun T locs X t k => XS.ineg X.here K.1.1 rfl (hb K.1.2.2.1 hd) rfl k) hr
theorem oW.ishl (K : oK p s m meth c Z own by0 ml ret nm) {x y v : Int32} (hd : decode by0 pc = .ok (.ishl, 1)) (hv : v = x <<< (y &&& 31)) (hp : pc + 1 = pc') (hr : oW p l e R s m args below meth c Z h0 P ds cells slots pc' Ls (.int v :: S)) : oW p l e R s m args below meth c Z h0 P ds cells slots pc Ls (.int y :: .int x :: S) := by
  subst hp hv
  exact oW.pure (fun T locs X t k => XT.ishl X.here K.1.1 rfl (hb K.1.2.2.1 hd) rfl k) hr
theorem oW.ishr (K : oK p s m meth c Z own by0 ml ret nm) {x y v : Int32} (hd : decode by0 pc = .ok (.ishr, 1)) (hv : v = x >>> (y &&& 31)) (hp : pc + 1 = pc') (hr : oW p l e R s m args below meth c Z h0 P ds cells slots pc' Ls (.int v :: S)) : oW p l e R s m args below meth c Z h0 P ds cells slots pc Ls (.int y :: .int x :: S) := by
  subst hp hv
  exact oW.pure (fun T locs X t k => XT.ishr X.here K.1.1 rfl (hb K.1.2.2.1 hd) rfl k) hr
theorem oW.iushr (K : oK p s m meth c Z own by0 ml ret nm) {x y v : Int32} (hd : decode by0 pc = .ok (.iushr, 1)) (hv : v = XT.ushr x y) (hp : pc + 1 = pc') (hr : oW p l e R s m args below meth c Z h0 P ds cells slots pc' Ls (.int v :: S)) : oW p l e R s m args below meth c Z h0 P ds cells slots pc Ls (.int y :: .int x :: S) := by
  subst hp hv
  exact oW.pure (fun T locs X t k => XT.iushr X.here K.1.1 rfl (hb K.1.2.2.1 hd) rfl k) hr
theorem oW.iinc (K : oK p s m meth c Z own by0 ml ret nm) {k : Nat} {cst : Int} {x v : Int32} (hd : decode by0 pc = .ok (.iinc k cst, 3)) (hl : Ls[k]? = some (.val (.int x))) (hv : v = x + Int32.ofInt cst) (hs : storeLocals Ls k (.int v) = some Ls') (hp : pc + 3 = pc') (hr : oW p l e R s m args below meth c Z h0 P ds cells slots pc' Ls' (S)) : oW p l e R s m args below meth c Z h0 P ds cells slots pc Ls (S) := by
  subst hp hv
  exact oW.pure (fun T locs X t k => XS.iinc X.here K.1.1 rfl (hb K.1.2.2.1 hd) hl hs k) hr
theorem oW.i2l (K : oK p s m meth c Z own by0 ml ret nm) {x : Int32} {v : Int64} (hd : decode by0 pc = .ok (.i2l, 1)) (hv : v = x.toInt64) (hp : pc + 1 = pc') (hr : oW p l e R s m args below meth c Z h0 P ds cells slots pc' Ls (.long v :: S)) : oW p l e R s m args below meth c Z h0 P ds cells slots pc Ls (.int x :: S) := by
  subst hp hv
  exact oW.pure (fun T locs X t k => XT.i2l X.here K.1.1 rfl (hb K.1.2.2.1 hd) rfl k) hr
theorem oW.l2i (K : oK p s m meth c Z own by0 ml ret nm) {x : Int64} {v : Int32} (hd : decode by0 pc = .ok (.l2i, 1)) (hv : v = x.toInt32) (hp : pc + 1 = pc') (hr : oW p l e R s m args below meth c Z h0 P ds cells slots pc' Ls (.int v :: S)) : oW p l e R s m args below meth c Z h0 P ds cells slots pc Ls (.long x :: S) := by
  subst hp hv
  exact oW.pure (fun T locs X t k => XT.l2i X.here K.1.1 rfl (hb K.1.2.2.1 hd) rfl k) hr
theorem oW.i2s (K : oK p s m meth c Z own by0 ml ret nm) {x v : Int32} (hd : decode by0 pc = .ok (.i2s, 1)) (hv : v = x.toInt16.toInt32) (hp : pc + 1 = pc') (hr : oW p l e R s m args below meth c Z h0 P ds cells slots pc' Ls (.int v :: S)) : oW p l e R s m args below meth c Z h0 P ds cells slots pc Ls (.int x :: S) := by
  subst hp hv
  exact oW.pure (fun T locs X t k => XT.i2s X.here K.1.1 rfl (hb K.1.2.2.1 hd) rfl k) hr
theorem oW.lshl (K : oK p s m meth c Z own by0 ml ret nm) {x v : Int64} {y : Int32} (hd : decode by0 pc = .ok (.lshl, 1)) (hv : v = x <<< (y.toInt64 &&& 63)) (hp : pc + 1 = pc') (hr : oW p l e R s m args below meth c Z h0 P ds cells slots pc' Ls (.long v :: S)) : oW p l e R s m args below meth c Z h0 P ds cells slots pc Ls (.int y :: .long x :: S) := by
  subst hp hv
  exact oW.pure (fun T locs X t k => XT.lshl X.here K.1.1 rfl (hb K.1.2.2.1 hd) rfl k) hr
theorem oW.lshr (K : oK p s m meth c Z own by0 ml ret nm) {x v : Int64} {y : Int32} (hd : decode by0 pc = .ok (.lshr, 1)) (hv : v = x >>> (y.toInt64 &&& 63)) (hp : pc + 1 = pc') (hr : oW p l e R s m args below meth c Z h0 P ds cells slots pc' Ls (.long v :: S)) : oW p l e R s m args below meth c Z h0 P ds cells slots pc Ls (.int y :: .long x :: S) := by
  subst hp hv
  exact oW.pure (fun T locs X t k => XT.lshr X.here K.1.1 rfl (hb K.1.2.2.1 hd) rfl k) hr
theorem oW.lushr (K : oK p s m meth c Z own by0 ml ret nm) {x v : Int64} {y : Int32} (hd : decode by0 pc = .ok (.lushr, 1)) (hv : v = XT.ushrL x y) (hp : pc + 1 = pc') (hr : oW p l e R s m args below meth c Z h0 P ds cells slots pc' Ls (.long v :: S)) : oW p l e R s m args below meth c Z h0 P ds cells slots pc Ls (.int y :: .long x :: S) := by
  subst hp hv
  exact oW.pure (fun T locs X t k => XT.lushr X.here K.1.1 rfl (hb K.1.2.2.1 hd) rfl k) hr
theorem oW.lcmp (K : oK p s m meth c Z own by0 ml ret nm) {x y : Int64} {v : Int32} (hd : decode by0 pc = .ok (.lcmp, 1)) (hv : v = XT.cmpL x y) (hp : pc + 1 = pc') (hr : oW p l e R s m args below meth c Z h0 P ds cells slots pc' Ls (.int v :: S)) : oW p l e R s m args below meth c Z h0 P ds cells slots pc Ls (.long y :: .long x :: S) := by
  subst hp hv
  exact oW.pure (fun T locs X t k => XT.lcmp X.here K.1.1 rfl (hb K.1.2.2.1 hd) rfl k) hr
theorem oW.i2d (K : oK p s m meth c Z own by0 ml ret nm) {x : Int32} {v : UInt64} (hd : decode by0 pc = .ok (.i2d, 1)) (hv : v = FP.i2d x) (hp : pc + 1 = pc') (hr : oW p l e R s m args below meth c Z h0 P ds cells slots pc' Ls (.double v :: S)) : oW p l e R s m args below meth c Z h0 P ds cells slots pc Ls (.int x :: S) := by
  subst hp hv
  exact oW.pure (fun T locs X t k => XS.i2dS X.here K.1.1 rfl (hb K.1.2.2.1 hd) rfl rfl k) hr
theorem oW.l2d (K : oK p s m meth c Z own by0 ml ret nm) {x : Int64} {v : UInt64} (hd : decode by0 pc = .ok (.l2d, 1)) (hv : v = FP.l2d x) (hp : pc + 1 = pc') (hr : oW p l e R s m args below meth c Z h0 P ds cells slots pc' Ls (.double v :: S)) : oW p l e R s m args below meth c Z h0 P ds cells slots pc Ls (.long x :: S) := by
  subst hp hv
  exact oW.pure (fun T locs X t k => XS.l2dS X.here K.1.1 rfl (hb K.1.2.2.1 hd) rfl rfl k) hr
theorem oW.dcmp (K : oK p s m meth c Z own by0 ml ret nm) {o : CmpOp} {x y : UInt64} {v : Int32} (hd : decode by0 pc = .ok (.dcmp o, 1)) (hv : v = cmpValue (FP.dcmp x y) o) (hp : pc + 1 = pc') (hr : oW p l e R s m args below meth c Z h0 P ds cells slots pc' Ls (.int v :: S)) : oW p l e R s m args below meth c Z h0 P ds cells slots pc Ls (.double y :: .double x :: S) := by
  subst hp hv
  exact oW.pure (fun T locs X t k => XS.dcmpS X.here K.1.1 rfl (hb K.1.2.2.1 hd) rfl rfl k) hr
theorem oW.dadd (K : oK p s m meth c Z own by0 ml ret nm) {x y v : UInt64} (hd : decode by0 pc = .ok (.dadd, 1)) (hv : v = FP.dadd x y) (hn : Jvm.Free.Fl.NoNaN64 v) (hp : pc + 1 = pc') (hr : oW p l e R s m args below meth c Z h0 P ds cells slots pc' Ls (.double v :: S)) : oW p l e R s m args below meth c Z h0 P ds cells slots pc Ls (.double y :: .double x :: S) := by
  subst hp hv
  exact oW.pure (fun T locs X t k => XS.daddS X.here K.1.1 rfl (hb K.1.2.2.1 hd) rfl hn rfl k) hr
theorem oW.dsub (K : oK p s m meth c Z own by0 ml ret nm) {x y v : UInt64} (hd : decode by0 pc = .ok (.dsub, 1)) (hv : v = FP.dsub x y) (hn : Jvm.Free.Fl.NoNaN64 v) (hp : pc + 1 = pc') (hr : oW p l e R s m args below meth c Z h0 P ds cells slots pc' Ls (.double v :: S)) : oW p l e R s m args below meth c Z h0 P ds cells slots pc Ls (.double y :: .double x :: S) := by
  subst hp hv
  exact oW.pure (fun T locs X t k => XS.dsubS X.here K.1.1 rfl (hb K.1.2.2.1 hd) rfl hn rfl k) hr
theorem oW.dmul (K : oK p s m meth c Z own by0 ml ret nm) {x y v : UInt64} (hd : decode by0 pc = .ok (.dmul, 1)) (hv : v = FP.dmul x y) (hn : Jvm.Free.Fl.NoNaN64 v) (hp : pc + 1 = pc') (hr : oW p l e R s m args below meth c Z h0 P ds cells slots pc' Ls (.double v :: S)) : oW p l e R s m args below meth c Z h0 P ds cells slots pc Ls (.double y :: .double x :: S) := by
  subst hp hv
  exact oW.pure (fun T locs X t k => XS.dmulS X.here K.1.1 rfl (hb K.1.2.2.1 hd) rfl hn rfl k) hr
theorem oW.ddiv (K : oK p s m meth c Z own by0 ml ret nm) {x y v : UInt64} (hd : decode by0 pc = .ok (.ddiv, 1)) (hv : v = FP.ddiv x y) (hn : Jvm.Free.Fl.NoNaN64 v) (hp : pc + 1 = pc') (hr : oW p l e R s m args below meth c Z h0 P ds cells slots pc' Ls (.double v :: S)) : oW p l e R s m args below meth c Z h0 P ds cells slots pc Ls (.double y :: .double x :: S) := by
  subst hp hv
  exact oW.pure (fun T locs X t k => XS.ddivS X.here K.1.1 rfl (hb K.1.2.2.1 hd) rfl hn rfl k) hr
theorem oW.dup (K : oK p s m meth c Z own by0 ml ret nm) {x : Value} (hd : decode by0 pc = .ok (.dup, 1)) (hc : x.category = 1) (hp : pc + 1 = pc') (hr : oW p l e R s m args below meth c Z h0 P ds cells slots pc' Ls (x :: x :: S)) : oW p l e R s m args below meth c Z h0 P ds cells slots pc Ls (x :: S) := by
  subst hp
  exact oW.pure (fun T locs X t k => XS.dup X.here K.1.1 rfl (hb K.1.2.2.1 hd) rfl hc k) hr
theorem oW.pop (K : oK p s m meth c Z own by0 ml ret nm) {x : Value} (hd : decode by0 pc = .ok (.pop, 1)) (hc : x.category = 1) (hp : pc + 1 = pc') (hr : oW p l e R s m args below meth c Z h0 P ds cells slots pc' Ls (S)) : oW p l e R s m args below meth c Z h0 P ds cells slots pc Ls (x :: S) := by
  subst hp
  exact oW.pure (fun T locs X t k => XT.pop X.here K.1.1 rfl (hb K.1.2.2.1 hd) rfl hc k) hr
theorem oW.dup2 (K : oK p s m meth c Z own by0 ml ret nm) {x y : Value} (hd : decode by0 pc = .ok (.dup2, 1)) (hc : x.category = 1) (hc' : y.category = 1) (hp : pc + 1 = pc') (hr : oW p l e R s m args below meth c Z h0 P ds cells slots pc' Ls (x :: y :: x :: y :: S)) : oW p l e R s m args below meth c Z h0 P ds cells slots pc Ls (x :: y :: S) := by
  subst hp
  exact oW.pure (fun T locs X t k => XT.dup2 X.here K.1.1 rfl (hb K.1.2.2.1 hd) rfl hc hc' k) hr
theorem oW.dupX1 (K : oK p s m meth c Z own by0 ml ret nm) {x y : Value} (hd : decode by0 pc = .ok (.dup_x1, 1)) (hc : x.category = 1) (hc' : y.category = 1) (hp : pc + 1 = pc') (hr : oW p l e R s m args below meth c Z h0 P ds cells slots pc' Ls (x :: y :: x :: S)) : oW p l e R s m args below meth c Z h0 P ds cells slots pc Ls (x :: y :: S) := by
  subst hp
  exact oW.pure (fun T locs X t k => XT.dupX1 X.here K.1.1 rfl (hb K.1.2.2.1 hd) rfl hc hc' k) hr
theorem oW.goto (K : oK p s m meth c Z own by0 ml ret nm) {o : Int} (hd : decode by0 pc = .ok (.goto o, 3)) (ho : 0 ≤ (pc : Int) + o) (hp : ((pc : Int) + o).toNat = pc') (hr : oW p l e R s m args below meth c Z h0 P ds cells slots pc' Ls S) : oW p l e R s m args below meth c Z h0 P ds cells slots pc Ls S :=
  oW.pure (fun T locs X t k => XS.goto X.here K.1.1 rfl rfl (hb K.1.2.2.1 hd) ho hp k) hr
theorem oW.ifc (K : oK p s m meth c Z own by0 ml ret nm) {cd : ClassFile.Cond} {o : Int} {x : Int32} {pc3 : Nat} (hd : decode by0 pc = .ok (.ifCond cd o, 3)) (ho : 0 ≤ (pc : Int) + o) (hp : ((pc : Int) + o).toNat = pc') (h3 : pc + 3 = pc3) (hy : if_icmp.holds cd x 0 = true → oW p l e R s m args below meth c Z h0 P ds cells slots pc' Ls S) (hn : if_icmp.holds cd x 0 = false → oW p l e R s m args below meth c Z h0 P ds cells slots pc3 Ls S) : oW p l e R s m args below meth c Z h0 P ds cells slots pc Ls (.int x :: S) := by
  subst h3
  cases q : if_icmp.holds cd x 0
  · exact oW.pure (fun T locs X t k => XS.ifNo X.here K.1.1 rfl (hb K.1.2.2.1 hd) rfl ((if0 _ _).trans q) k) (hn q)
  · exact oW.pure (fun T locs X t k => XS.ifYes X.here K.1.1 rfl rfl (hb K.1.2.2.1 hd) rfl ((if0 _ _).trans q) ho hp k) (hy q)
theorem oW.icc (K : oK p s m meth c Z own by0 ml ret nm) {cd : ClassFile.Cond} {o : Int} {x y : Int32} {pc3 : Nat} (hd : decode by0 pc = .ok (.if_icmp cd o, 3)) (ho : 0 ≤ (pc : Int) + o) (hp : ((pc : Int) + o).toNat = pc') (h3 : pc + 3 = pc3) (hy : if_icmp.holds cd x y = true → oW p l e R s m args below meth c Z h0 P ds cells slots pc' Ls S) (hn : if_icmp.holds cd x y = false → oW p l e R s m args below meth c Z h0 P ds cells slots pc3 Ls S) : oW p l e R s m args below meth c Z h0 P ds cells slots pc Ls (.int y :: .int x :: S) := by
  subst h3
  cases q : if_icmp.holds cd x y
  · exact oW.pure (fun T locs X t k => XS.icmpNo X.here K.1.1 rfl (hb K.1.2.2.1 hd) rfl q k) (hn q)
  · exact oW.pure (fun T locs X t k => XS.icmpYes X.here K.1.1 rfl rfl (hb K.1.2.2.1 hd) rfl q ho hp k) (hy q)
theorem oH_lt {x y : Int32} : (if_icmp.holds .lt x y = true → x < y) ∧ (if_icmp.holds .lt x y = false → ¬ x < y) := ⟨fun q => Decidable.byContradiction (fun r => absurd q (by rw [(flt r).1]; decide)), fun q r => absurd q (by rw [(tlt r).1]; decide)⟩
theorem oH_ge {x y : Int32} : (if_icmp.holds .ge x y = true → ¬ x < y) ∧ (if_icmp.holds .ge x y = false → x < y) := ⟨fun q r => absurd q (by rw [(tlt r).2.1]; decide), fun q => Decidable.byContradiction (fun r => absurd q (by rw [(flt r).2.1]; decide))⟩
theorem oH_gt {x y : Int32} : (if_icmp.holds .gt x y = true → y < x) ∧ (if_icmp.holds .gt x y = false → ¬ y < x) := ⟨fun q => Decidable.byContradiction (fun r => absurd q (by rw [(flt r).2.2.1]; decide)), fun q r => absurd q (by rw [(tlt r).2.2.1]; decide)⟩
theorem oH_le {x y : Int32} : (if_icmp.holds .le x y = true → ¬ y < x) ∧ (if_icmp.holds .le x y = false → y < x) := ⟨fun q r => absurd q (by rw [(tlt r).2.2.2]; decide), fun q => Decidable.byContradiction (fun r => absurd q (by rw [(flt r).2.2.2]; decide))⟩
theorem oH_eq {x y : Int32} : (if_icmp.holds .eq x y = true → x = y) ∧ (if_icmp.holds .eq x y = false → ¬ x = y) := ⟨fun q => Decidable.byContradiction (fun r => absurd q (by rw [(feq r).1]; decide)), fun q r => absurd q (by rw [(teq r).1]; decide)⟩
theorem oH_ne {x y : Int32} : (if_icmp.holds .ne x y = true → ¬ x = y) ∧ (if_icmp.holds .ne x y = false → x = y) := ⟨fun q r => absurd q (by rw [(teq r).2]; decide), fun q => Decidable.byContradiction (fun r => absurd q (by rw [(feq r).2]; decide))⟩
theorem oW.if_lt (K : oK p s m meth c Z own by0 ml ret nm) {o : Int} {x : Int32} {pc3 : Nat} (hd : decode by0 pc = .ok (.ifCond .lt o, 3)) (ho : 0 ≤ (pc : Int) + o) (hp : ((pc : Int) + o).toNat = pc') (h3 : pc + 3 = pc3) (hy : x < 0 → oW p l e R s m args below meth c Z h0 P ds cells slots pc' Ls S) (hn : ¬ x < 0 → oW p l e R s m args below meth c Z h0 P ds cells slots pc3 Ls S) : oW p l e R s m args below meth c Z h0 P ds cells slots pc Ls (.int x :: S) :=
  oW.ifc K hd ho hp h3 (fun q => hy (oH_lt.1 q)) (fun q => hn (oH_lt.2 q))
theorem oW.icmp_lt (K : oK p s m meth c Z own by0 ml ret nm) {o : Int} {x y : Int32} {pc3 : Nat} (hd : decode by0 pc = .ok (.if_icmp .lt o, 3)) (ho : 0 ≤ (pc : Int) + o) (hp : ((pc : Int) + o).toNat = pc') (h3 : pc + 3 = pc3) (hy : x < y → oW p l e R s m args below meth c Z h0 P ds cells slots pc' Ls S) (hn : ¬ x < y → oW p l e R s m args below meth c Z h0 P ds cells slots pc3 Ls S) : oW p l e R s m args below meth c Z h0 P ds cells slots pc Ls (.int y :: .int x :: S) :=
  oW.icc K hd ho hp h3 (fun q => hy (oH_lt.1 q)) (fun q => hn (oH_lt.2 q))
theorem oW.if_ge (K : oK p s m meth c Z own by0 ml ret nm) {o : Int} {x : Int32} {pc3 : Nat} (hd : decode by0 pc = .ok (.ifCond .ge o, 3)) (ho : 0 ≤ (pc : Int) + o) (hp : ((pc : Int) + o).toNat = pc') (h3 : pc + 3 = pc3) (hy : ¬ x < 0 → oW p l e R s m args below meth c Z h0 P ds cells slots pc' Ls S) (hn : x < 0 → oW p l e R s m args below meth c Z h0 P ds cells slots pc3 Ls S) : oW p l e R s m args below meth c Z h0 P ds cells slots pc Ls (.int x :: S) :=
  oW.ifc K hd ho hp h3 (fun q => hy (oH_ge.1 q)) (fun q => hn (oH_ge.2 q))
theorem oW.icmp_ge (K : oK p s m meth c Z own by0 ml ret nm) {o : Int} {x y : Int32} {pc3 : Nat} (hd : decode by0 pc = .ok (.if_icmp .ge o, 3)) (ho : 0 ≤ (pc : Int) + o) (hp : ((pc : Int) + o).toNat = pc') (h3 : pc + 3 = pc3) (hy : ¬ x < y → oW p l e R s m args below meth c Z h0 P ds cells slots pc' Ls S) (hn : x < y → oW p l e R s m args below meth c Z h0 P ds cells slots pc3 Ls S) : oW p l e R s m args below meth c Z h0 P ds cells slots pc Ls (.int y :: .int x :: S) :=
  oW.icc K hd ho hp h3 (fun q => hy (oH_ge.1 q)) (fun q => hn (oH_ge.2 q))
theorem oW.if_gt (K : oK p s m meth c Z own by0 ml ret nm) {o : Int} {x : Int32} {pc3 : Nat} (hd : decode by0 pc = .ok (.ifCond .gt o, 3)) (ho : 0 ≤ (pc : Int) + o) (hp : ((pc : Int) + o).toNat = pc') (h3 : pc + 3 = pc3) (hy : 0 < x → oW p l e R s m args below meth c Z h0 P ds cells slots pc' Ls S) (hn : ¬ 0 < x → oW p l e R s m args below meth c Z h0 P ds cells slots pc3 Ls S) : oW p l e R s m args below meth c Z h0 P ds cells slots pc Ls (.int x :: S) :=
  oW.ifc K hd ho hp h3 (fun q => hy (oH_gt.1 q)) (fun q => hn (oH_gt.2 q))
theorem oW.icmp_gt (K : oK p s m meth c Z own by0 ml ret nm) {o : Int} {x y : Int32} {pc3 : Nat} (hd : decode by0 pc = .ok (.if_icmp .gt o, 3)) (ho : 0 ≤ (pc : Int) + o) (hp : ((pc : Int) + o).toNat = pc') (h3 : pc + 3 = pc3) (hy : y < x → oW p l e R s m args below meth c Z h0 P ds cells slots pc' Ls S) (hn : ¬ y < x → oW p l e R s m args below meth c Z h0 P ds cells slots pc3 Ls S) : oW p l e R s m args below meth c Z h0 P ds cells slots pc Ls (.int y :: .int x :: S) :=
  oW.icc K hd ho hp h3 (fun q => hy (oH_gt.1 q)) (fun q => hn (oH_gt.2 q))
theorem oW.if_le (K : oK p s m meth c Z own by0 ml ret nm) {o : Int} {x : Int32} {pc3 : Nat} (hd : decode by0 pc = .ok (.ifCond .le o, 3)) (ho : 0 ≤ (pc : Int) + o) (hp : ((pc : Int) + o).toNat = pc') (h3 : pc + 3 = pc3) (hy : ¬ 0 < x → oW p l e R s m args below meth c Z h0 P ds cells slots pc' Ls S) (hn : 0 < x → oW p l e R s m args below meth c Z h0 P ds cells slots pc3 Ls S) : oW p l e R s m args below meth c Z h0 P ds cells slots pc Ls (.int x :: S) :=
  oW.ifc K hd ho hp h3 (fun q => hy (oH_le.1 q)) (fun q => hn (oH_le.2 q))
theorem oW.icmp_le (K : oK p s m meth c Z own by0 ml ret nm) {o : Int} {x y : Int32} {pc3 : Nat} (hd : decode by0 pc = .ok (.if_icmp .le o, 3)) (ho : 0 ≤ (pc : Int) + o) (hp : ((pc : Int) + o).toNat = pc') (h3 : pc + 3 = pc3) (hy : ¬ y < x → oW p l e R s m args below meth c Z h0 P ds cells slots pc' Ls S) (hn : y < x → oW p l e R s m args below meth c Z h0 P ds cells slots pc3 Ls S) : oW p l e R s m args below meth c Z h0 P ds cells slots pc Ls (.int y :: .int x :: S) :=
  oW.icc K hd ho hp h3 (fun q => hy (oH_le.1 q)) (fun q => hn (oH_le.2 q))
theorem oW.if_eq (K : oK p s m meth c Z own by0 ml ret nm) {o : Int} {x : Int32} {pc3 : Nat} (hd : decode by0 pc = .ok (.ifCond .eq o, 3)) (ho : 0 ≤ (pc : Int) + o) (hp : ((pc : Int) + o).toNat = pc') (h3 : pc + 3 = pc3) (hy : x = 0 → oW p l e R s m args below meth c Z h0 P ds cells slots pc' Ls S) (hn : ¬ x = 0 → oW p l e R s m args below meth c Z h0 P ds cells slots pc3 Ls S) : oW p l e R s m args below meth c Z h0 P ds cells slots pc Ls (.int x :: S) :=
  oW.ifc K hd ho hp h3 (fun q => hy (oH_eq.1 q)) (fun q => hn (oH_eq.2 q))
theorem oW.icmp_eq (K : oK p s m meth c Z own by0 ml ret nm) {o : Int} {x y : Int32} {pc3 : Nat} (hd : decode by0 pc = .ok (.if_icmp .eq o, 3)) (ho : 0 ≤ (pc : Int) + o) (hp : ((pc : Int) + o).toNat = pc') (h3 : pc + 3 = pc3) (hy : x = y → oW p l e R s m args below meth c Z h0 P ds cells slots pc' Ls S) (hn : ¬ x = y → oW p l e R s m args below meth c Z h0 P ds cells slots pc3 Ls S) : oW p l e R s m args below meth c Z h0 P ds cells slots pc Ls (.int y :: .int x :: S) :=
  oW.icc K hd ho hp h3 (fun q => hy (oH_eq.1 q)) (fun q => hn (oH_eq.2 q))
theorem oW.if_ne (K : oK p s m meth c Z own by0 ml ret nm) {o : Int} {x : Int32} {pc3 : Nat} (hd : decode by0 pc = .ok (.ifCond .ne o, 3)) (ho : 0 ≤ (pc : Int) + o) (hp : ((pc : Int) + o).toNat = pc') (h3 : pc + 3 = pc3) (hy : ¬ x = 0 → oW p l e R s m args below meth c Z h0 P ds cells slots pc' Ls S) (hn : x = 0 → oW p l e R s m args below meth c Z h0 P ds cells slots pc3 Ls S) : oW p l e R s m args below meth c Z h0 P ds cells slots pc Ls (.int x :: S) :=
  oW.ifc K hd ho hp h3 (fun q => hy (oH_ne.1 q)) (fun q => hn (oH_ne.2 q))
theorem oW.icmp_ne (K : oK p s m meth c Z own by0 ml ret nm) {o : Int} {x y : Int32} {pc3 : Nat} (hd : decode by0 pc = .ok (.if_icmp .ne o, 3)) (ho : 0 ≤ (pc : Int) + o) (hp : ((pc : Int) + o).toNat = pc') (h3 : pc + 3 = pc3) (hy : ¬ x = y → oW p l e R s m args below meth c Z h0 P ds cells slots pc' Ls S) (hn : x = y → oW p l e R s m args below meth c Z h0 P ds cells slots pc3 Ls S) : oW p l e R s m args below meth c Z h0 P ds cells slots pc Ls (.int y :: .int x :: S) :=
  oW.icc K hd ho hp h3 (fun q => hy (oH_ne.1 q)) (fun q => hn (oH_ne.2 q))
theorem oW.ifnullNo (K : oK p s m meth c Z own by0 ml ret nm) {o : Int} {b : Addr} (hd : decode by0 pc = .ok (.ifnull o, 3)) (hp : pc + 3 = pc') (hr : oW p l e R s m args below meth c Z h0 P ds cells slots pc' Ls S) : oW p l e R s m args below meth c Z h0 P ds cells slots pc Ls (.ref b :: S) := by
  subst hp
  exact oW.pure (fun T locs X t k => XS.ifnullNo X.here K.1.1 rfl (hb K.1.2.2.1 hd) rfl k) hr
theorem oW.ifnullYes (K : oK p s m meth c Z own by0 ml ret nm) {o : Int} (hd : decode by0 pc = .ok (.ifnull o, 3)) (ho : 0 ≤ (pc : Int) + o) (hp : ((pc : Int) + o).toNat = pc') (hr : oW p l e R s m args below meth c Z h0 P ds cells slots pc' Ls S) : oW p l e R s m args below meth c Z h0 P ds cells slots pc Ls (.null :: S) :=
  oW.pure (fun T locs X t k => XS.ifnullYes X.here K.1.1 rfl rfl (hb K.1.2.2.1 hd) rfl ho hp k) hr
theorem oW.ifnonnullYes (K : oK p s m meth c Z own by0 ml ret nm) {o : Int} {b : Addr} (hd : decode by0 pc = .ok (.ifnonnull o, 3)) (ho : 0 ≤ (pc : Int) + o) (hp : ((pc : Int) + o).toNat = pc') (hr : oW p l e R s m args below meth c Z h0 P ds cells slots pc' Ls S) : oW p l e R s m args below meth c Z h0 P ds cells slots pc Ls (.ref b :: S) :=
  oW.pure (fun T locs X t k => XT.ifnonnullYes X.here K.1.1 rfl rfl (hb K.1.2.2.1 hd) rfl ho hp k) hr
theorem oW.ldcI (K : oK p s m meth c Z own by0 ml ret nm) {index : Nat} {v : Int32} (w : (Jvm.Cond.constant own index v).before a0 Z = true) (hd : decode by0 pc = .ok (.ldc index, 2)) (hp : pc + 2 = pc') (hr : oW p l e R s m args below meth c Z h0 P ds cells slots pc' Ls (.int v :: S)) : oW p l e R s m args below meth c Z h0 P ds cells slots pc Ls S := by
  subst hp
  exact oW.pure (fun T locs X t k => X.ldcInt K.1.1 K.2.1 (mv K.1.2.1 w) (g := mkF m pc Ls S) rfl (hb K.1.2.2.1 hd) t k) hr
theorem oW.ldc2D (K : oK p s m meth c Z own by0 ml ret nm) {index : Nat} {v : UInt64} (w : (Jvm.Cond.constantDouble own index v).before a0 Z = true) (hd : decode by0 pc = .ok (.ldc2_w index, 3)) (hp : pc + 3 = pc') (hr : oW p l e R s m args below meth c Z h0 P ds cells slots pc' Ls (.double v :: S)) : oW p l e R s m args below meth c Z h0 P ds cells slots pc Ls S := by
  subst hp
  exact oW.pure (fun T locs X t k => X.ldc2DoubleC K.1.1 K.2.1 (mv K.1.2.1 w) (g := mkF m pc Ls S) rfl (hb K.1.2.2.1 hd) t k) hr
theorem oW.ldc2L (K : oK p s m meth c Z own by0 ml ret nm) {index : Nat} {v : Int64} (w : (Jvm.Cond.constantLong own index v).before a0 Z = true) (hd : decode by0 pc = .ok (.ldc2_w index, 3)) (hp : pc + 3 = pc') (hr : oW p l e R s m args below meth c Z h0 P ds cells slots pc' Ls (.long v :: S)) : oW p l e R s m args below meth c Z h0 P ds cells slots pc Ls S := by
  subst hp
  exact oW.pure (fun T locs X t k => X.ldc2Long K.1.1 K.2.1 (mv K.1.2.1 w) (g := mkF m pc Ls S) rfl (hb K.1.2.2.1 hd) t k) hr
theorem oLen {vs : List Value} {j : Int32} {k : Nat} {v : Value} {c : Cell} (hj : j = Int32.ofNat k) (hk : k < 2 ^ 31) (hv : vs[k]? = some v) (hs : c.slots = vs.toArray) : ¬ (j < 0 ∨ c.slots.size ≤ j.toNatClampNeg) ∧ c.slots[j.toNatClampNeg]? = some v := by
  subst hj
  have e : (Int32.ofNat k).toNatClampNeg = k := Int32.toNatClampNeg_ofNat_of_lt hk
  have l := (List.getElem?_eq_some_iff.mp hv).1
  rw [e, hs]
  refine ⟨fun q => q.elim (Int32.ofNat_not_neg hk) (fun r => by simp at r; omega), by simpa using hv⟩
theorem oW.iaload (K : oK p s m meth c Z own by0 ml ret nm) {i k : Nat} {a : Addr} {vs : List Value} {j : Int32} {v : Value} (hd : decode by0 pc = .ok (.iaload, 1)) (hi : ds[i]? = some (a, .inl (.int, vs))) (hj : j = Int32.ofNat k) (hk : k < 2 ^ 31) (hv : vs[k]? = some v) (hp : pc + 1 = pc') (hr : oW p l e R s m args below meth c Z h0 P ds cells slots pc' Ls (v :: S)) : oW p l e R s m args below meth c Z h0 P ds cells slots pc Ls (.int j :: .ref a :: S) := by
  subst hp
  rintro T ⟨locs, X, N, M⟩
  obtain ⟨cl, A, hs⟩ := (M.2.2 i _ hi).2
  obtain ⟨q1, q2⟩ := oLen hj hk hv hs
  exact oW.ends (fun t k => X.iaload K.1.1 A.1 (State.isArrayOf_alike K.1.2.1.alike A.2.1) A.2.2 q1 q2 (g := mkF m pc Ls (.int j :: .ref a :: S)) rfl rfl (hb K.1.2.2.1 hd) t k) (hr T ⟨locs, X, N, M⟩)
theorem oW.daload (K : oK p s m meth c Z own by0 ml ret nm) {i k : Nat} {a : Addr} {vs : List Value} {j : Int32} {v : Value} (hd : decode by0 pc = .ok (.daload, 1)) (hi : ds[i]? = some (a, .inl (.double, vs))) (hj : j = Int32.ofNat k) (hk : k < 2 ^ 31) (hv : vs[k]? = some v) (hp : pc + 1 = pc') (hr : oW p l e R s m args below meth c Z h0 P ds cells slots pc' Ls (v :: S)) : oW p l e R s m args below meth c Z h0 P ds cells slots pc Ls (.int j :: .ref a :: S) := by
  subst hp
  rintro T ⟨locs, X, N, M⟩
  obtain ⟨cl, A, hs⟩ := (M.2.2 i _ hi).2
  obtain ⟨q1, q2⟩ := oLen hj hk hv hs
  exact oW.ends (fun t k => X.daload K.1.1 A.1 (State.isArrayOf_alike K.1.2.1.alike A.2.1) A.2.2 q1 q2 (g := mkF m pc Ls (.int j :: .ref a :: S)) rfl rfl (hb K.1.2.2.1 hd) t k) (hr T ⟨locs, X, N, M⟩)
theorem oW.laload (K : oK p s m meth c Z own by0 ml ret nm) {i k : Nat} {a : Addr} {vs : List Value} {j : Int32} {v : Value} (hd : decode by0 pc = .ok (.laload, 1)) (hi : ds[i]? = some (a, .inl (.long, vs))) (hj : j = Int32.ofNat k) (hk : k < 2 ^ 31) (hv : vs[k]? = some v) (hp : pc + 1 = pc') (hr : oW p l e R s m args below meth c Z h0 P ds cells slots pc' Ls (v :: S)) : oW p l e R s m args below meth c Z h0 P ds cells slots pc Ls (.int j :: .ref a :: S) := by
  subst hp
  rintro T ⟨locs, X, N, M⟩
  obtain ⟨cl, A, hs⟩ := (M.2.2 i _ hi).2
  obtain ⟨q1, q2⟩ := oLen hj hk hv hs
  exact oW.ends (fun t k => X.laload K.1.1 A.1 (State.isArrayOf_alike K.1.2.1.alike A.2.1) A.2.2 q1 q2 (g := mkF m pc Ls (.int j :: .ref a :: S)) rfl rfl (hb K.1.2.2.1 hd) t k) (hr T ⟨locs, X, N, M⟩)
theorem oW.iastore (K : oK p s m meth c Z own by0 ml ret nm) {i k : Nat} {a : Addr} {vs : List Value} {j : Int32} {x : Int32} (hd : decode by0 pc = .ok (.iastore, 1)) (hi : ds[i]? = some (a, .inl (.int, vs))) (hj : j = Int32.ofNat k) (hk : k < 2 ^ 31) (hl : k < vs.length) (hds : ds.set i (a, .inl (.int, vs.set k (.int x))) = ds') (hp : pc + 1 = pc') (hr : oW p l e R s m args below meth c Z h0 P ds' cells slots pc' Ls S) : oW p l e R s m args below meth c Z h0 P ds cells slots pc Ls (.int x :: .int j :: .ref a :: S) := by
  subst hp hds
  rintro T ⟨locs, X, N, M⟩
  obtain ⟨ha, cl, A, hs⟩ := M.2.2 i _ hi
  obtain ⟨q1, q2⟩ := oLen hj hk (List.getElem?_eq_getElem hl) hs
  obtain ⟨T', h', X', e', Wr', st⟩ := stI X K.1.1 K.1.2.1 rfl A (x := x) q1 (g := mkF m pc Ls (.int x :: .int j :: .ref a :: S)) rfl rfl (hb K.1.2.2.1 hd)
  have ek : j.toNatClampNeg = k := by subst hj; exact Int32.toNatClampNeg_ofNat_of_lt hk
  refine oW.ends st (hr T' ⟨_, X', Fr.snoc X' N ha, ?_⟩)
  rw [e']
  refine M.put hi Wr' ⟨_, A.same Wr', ?_⟩
  rw [ek]; simp [Cell.setSlot, hs]
theorem oW.dastore (K : oK p s m meth c Z own by0 ml ret nm) {i k : Nat} {a : Addr} {vs : List Value} {j : Int32} {x : UInt64} (hd : decode by0 pc = .ok (.dastore, 1)) (hi : ds[i]? = some (a, .inl (.double, vs))) (hj : j = Int32.ofNat k) (hk : k < 2 ^ 31) (hl : k < vs.length) (hds : ds.set i (a, .inl (.double, vs.set k (.double x))) = ds') (hp : pc + 1 = pc') (hr : oW p l e R s m args below meth c Z h0 P ds' cells slots pc' Ls S) : oW p l e R s m args below meth c Z h0 P ds cells slots pc Ls (.double x :: .int j :: .ref a :: S) := by
  subst hp hds
  rintro T ⟨locs, X, N, M⟩
  obtain ⟨ha, cl, A, hs⟩ := M.2.2 i _ hi
  obtain ⟨q1, q2⟩ := oLen hj hk (List.getElem?_eq_getElem hl) hs
  obtain ⟨T', h', X', e', Wr', st⟩ := stD X K.1.1 K.1.2.1 rfl A (x := x) q1 (g := mkF m pc Ls (.double x :: .int j :: .ref a :: S)) rfl rfl (hb K.1.2.2.1 hd)
  have ek : j.toNatClampNeg = k := by subst hj; exact Int32.toNatClampNeg_ofNat_of_lt hk
  refine oW.ends st (hr T' ⟨_, X', Fr.snoc X' N ha, ?_⟩)
  rw [e']
  refine M.put hi Wr' ⟨_, A.same Wr', ?_⟩
  rw [ek]; simp [Cell.setSlot, hs]
theorem oW.lastore (K : oK p s m meth c Z own by0 ml ret nm) {i k : Nat} {a : Addr} {vs : List Value} {j : Int32} {x : Int64} (hd : decode by0 pc = .ok (.lastore, 1)) (hi : ds[i]? = some (a, .inl (.long, vs))) (hj : j = Int32.ofNat k) (hk : k < 2 ^ 31) (hl : k < vs.length) (hds : ds.set i (a, .inl (.long, vs.set k (.long x))) = ds') (hp : pc + 1 = pc') (hr : oW p l e R s m args below meth c Z h0 P ds' cells slots pc' Ls S) : oW p l e R s m args below meth c Z h0 P ds cells slots pc Ls (.long x :: .int j :: .ref a :: S) := by
  subst hp hds
  rintro T ⟨locs, X, N, M⟩
  obtain ⟨ha, cl, A, hs⟩ := M.2.2 i _ hi
  obtain ⟨q1, q2⟩ := oLen hj hk (List.getElem?_eq_getElem hl) hs
  obtain ⟨T', h', X', e', Wr', st⟩ := stJ X K.1.1 K.1.2.1 rfl A (x := x) q1 (g := mkF m pc Ls (.long x :: .int j :: .ref a :: S)) rfl rfl (hb K.1.2.2.1 hd)
  have ek : j.toNatClampNeg = k := by subst hj; exact Int32.toNatClampNeg_ofNat_of_lt hk
  refine oW.ends st (hr T' ⟨_, X', Fr.snoc X' N ha, ?_⟩)
  rw [e']
  refine M.put hi Wr' ⟨_, A.same Wr', ?_⟩
  rw [ek]; simp [Cell.setSlot, hs]
theorem oW.alen (K : oK p s m meth c Z own by0 ml ret nm) {i : Nat} {a : Addr} {ty : FieldType} {vs : List Value} {v : Int32} (hd : decode by0 pc = .ok (.arraylength, 1)) (hi : ds[i]? = some (a, .inl (ty, vs))) (hv : v = Int32.ofNat vs.length) (hp : pc + 1 = pc') (hr : oW p l e R s m args below meth c Z h0 P ds cells slots pc' Ls (.int v :: S)) : oW p l e R s m args below meth c Z h0 P ds cells slots pc Ls (.ref a :: S) := by
  subst hp
  rintro T ⟨locs, X, N, M⟩
  obtain ⟨cl, A, hs⟩ := (M.2.2 i _ hi).2
  have ev : v = cl.slots.size.toInt32 := by rw [hv, hs]; simp
  subst ev
  exact oW.ends (fun t k => X.arraylength K.1.1 A.1 (State.isArrayOf_alike K.1.2.1.alike A.2.1) (g := mkF m pc Ls (.ref a :: S)) rfl rfl (hb K.1.2.2.1 hd) t k) (hr T ⟨locs, X, N, M⟩)
theorem oW.newarr (K : oK p s m meth c Z own by0 ml ret nm) {aty : ArrayType} {j : Int32} {n : Nat} (w : (Jvm.Cond.arrayClass (newarray.typeOf aty)).before a0 Z = true) (hd : decode by0 pc = .ok (.newarray aty, 2)) (hj : j = Int32.ofNat n) (hn : n < 2 ^ 31) (hb8 : n * 8 ≤ 536870912) (hc : cells + 1 ≤ R.cells) (hs : slots + n ≤ R.slots) {cells' slots' : Nat} (hc' : cells + 1 = cells') (hs' : slots + n = slots') {dsf : Addr → oDs} (hds : ∀ a, ds ++ [(a, .inl (newarray.typeOf aty, List.replicate n (defaultValue (newarray.typeOf aty))))] = dsf a) (hp : pc + 2 = pc')
    (hr : ∀ a : Addr, h0.size ≤ a → oW p l e R s m args below meth c Z h0 P (dsf a) cells' slots' pc' Ls (.ref a :: S)) : oW p l e R s m args below meth c Z h0 P ds cells slots pc Ls (.int j :: S) := by
  subst hp hc' hs'
  rintro T ⟨locs, X, N, M⟩
  have ej : j.toNatClampNeg = n := by subst hj; exact Int32.toNatClampNeg_ofNat_of_lt hn
  obtain ⟨T', h', k, X', e', E', A', st⟩ := newP X K.1.1 K.1.2.1 w rfl (g := mkF m pc Ls (.int j :: S)) rfl (hb K.1.2.2.1 hd) rfl (by subst hj; exact Int32.ofNat_not_neg hn) (cap := n) (Nat.le_of_eq ej) hb8 hc hs
  refine oW.ends st (hr T.heap.size M.1.1 T' ⟨_, X', N, ?_⟩)
  rw [e', ← hds]
  refine M.push E' ⟨_, A', ?_⟩
  simp [newA, ej]
theorem oW.new (K : oK p s m meth c Z own by0 ml ret nm) {index n : Nat} {C : String} {fs : List (String × String × String × Value)} (w : (Jvm.Cond.classLink own index C).before a0 Z = true) (wi : (Jvm.Cond.instantiable C n).before a0 Z = true) (wz : (Jvm.Cond.initialized C).before a0 Z = true) (hL : ∀ f ∈ fs, Laid Z a0 C f.1 f.2.1 f.2.2.1 ∧ ∃ t, parseFieldDescriptor f.2.2.1 = some t ∧ f.2.2.2 = defaultValue t) (hd : decode by0 pc = .ok (.new index, 3)) (hc : cells + 1 ≤ R.cells) (hs : slots + n ≤ R.slots) {cells' slots' : Nat} (hc' : cells + 1 = cells') (hs' : slots + n = slots') {dsf : Addr → oDs} (hds : ∀ a, ds ++ [(a, .inr (C, fs))] = dsf a) (hp : pc + 3 = pc')
    (hr : ∀ a : Addr, h0.size ≤ a → oW p l e R s m args below meth c Z h0 P (dsf a) cells' slots' pc' Ls (.ref a :: S)) : oW p l e R s m args below meth c Z h0 P ds cells slots pc Ls S := by
  subst hp hc' hs'
  rintro T ⟨locs, X, N, M⟩
  obtain ⟨T', h', X', e', E', A', D', -, st⟩ := newO X K.1.1 K.1.2.1 K.2.1 w wi wz rfl (g := mkF m pc Ls S) rfl (hb K.1.2.2.1 hd) hc hs
  refine oW.ends st (hr T.heap.size M.1.1 T' ⟨_, X', N, ?_⟩)
  rw [e', ← hds]
  refine M.push E' ⟨A', fun f hf => ?_⟩
  obtain ⟨L, t, h1, h2⟩ := hL f hf
  rw [h2]; exact D' L h1
theorem oW.getf (K : oK p s m meth c Z own by0 ml ret nm) {index i q : Nat} {a : Addr} {C O n d : String} {fs : List (String × String × String × Value)} {v : Value} (w : (Jvm.Cond.fieldLink own index O n d).before a0 Z = true) (hd : decode by0 pc = .ok (.getfield index, 3)) (hi : ds[i]? = some (a, .inr (C, fs))) (hf : fs[q]? = some (O, n, d, v)) (hp : pc + 3 = pc') (hr : oW p l e R s m args below meth c Z h0 P ds cells slots pc' Ls (v :: S)) : oW p l e R s m args below meth c Z h0 P ds cells slots pc Ls (.ref a :: S) := by
  subst hp
  rintro T ⟨locs, X, N, M⟩
  obtain ⟨ha, hE, hF⟩ := M.2.2 i _ hi
  obtain ⟨T', X', e', st⟩ := getF X K.1.1 K.1.2.1 K.2.1 (host := "") (Or.inl w) Via.refl rfl (hF _ (List.mem_of_getElem? hf)) (g := mkF m pc Ls (.ref a :: S)) rfl rfl (hb K.1.2.2.1 hd)
  exact oW.ends st (hr T' ⟨_, X', N, by rw [e']; exact M⟩)
theorem oW.putf (K : oK p s m meth c Z own by0 ml ret nm) {index i q kk : Nat} {a : Addr} {C O n d : String} {fs : List (String × String × String × Value)} {v old : Value} {ty : FieldType} (w : (Jvm.Cond.fieldLink own index O n d).before a0 Z = true) (L : (Jvm.Cond.lays C O n d).before a0 Z = true ∨ ((Jvm.Cond.laysFinal C O n d).before a0 Z = true ∧ own = O ∧ nm = "<init>")) (wi : (Jvm.Cond.instantiable C kk).before a0 Z = true) (hap : oApart Z fs) (hd : decode by0 pc = .ok (.putfield index, 3)) (hi : ds[i]? = some (a, .inr (C, fs))) (hf : fs[q]? = some (O, n, d, old)) (hty : parseFieldDescriptor d = some ty) (hn : narrow ty v = v) (hfit : fits ty v = true) (hds : ds.set i (a, .inr (C, fs.set q (O, n, d, v))) = ds') (hp : pc + 3 = pc') (hr : oW p l e R s m args below meth c Z h0 P ds' cells slots pc' Ls S) : oW p l e R s m args below meth c Z h0 P ds cells slots pc Ls (v :: .ref a :: S) := by
  subst hp hds
  rintro T ⟨locs, X, N, M⟩
  obtain ⟨ha, hE, hF⟩ := M.2.2 i _ hi
  have hFq := hF _ (List.mem_of_getElem? hf)
  obtain ⟨T', h', X', e', Wr', st⟩ := putF X K.1.1 K.1.2.1 K.2.1 (host := "") (Or.inl w) Via.refl rfl hFq hE (L.imp id fun r => ⟨r.1, r.2.1, K.2.2.2.2.trans r.2.2⟩) wi hty hn hfit (g := mkF m pc Ls (v :: .ref a :: S)) rfl rfl (hb K.1.2.2.1 hd)
  refine oW.ends st (hr T' ⟨_, X', Fr.snoc X' N ha, ?_⟩)
  rw [e']
  refine M.put hi Wr' ⟨hE.wr Wr', fun f hf' => ?_⟩
  obtain ⟨r, hr'⟩ := List.getElem?_of_mem hf'
  rw [List.getElem?_set] at hr'
  split at hr'
  · rename_i er
    subst er
    rw [if_pos (List.getElem?_eq_some_iff.mp hf).1] at hr'
    cases hr'
    exact hFq.same Wr'
  · rename_i er
    have hh := hap r q f (O, n, d, old) (Ne.symm er) hr' hf
    exact (hF f (List.mem_of_getElem? hr')).other Wr' (Or.inr hh)
theorem oW.getst (K : oK p s m meth c Z own by0 ml ret nm) {index : Nat} {O n d : String} {v : Value} (w : (Jvm.Cond.fieldLink own index O n d).before a0 Z = true) (F : Sta Z h0 O n d v) (hd : decode by0 pc = .ok (.getstatic index, 3)) (hp : pc + 3 = pc') (hr : oW p l e R s m args below meth c Z h0 P ds cells slots pc' Ls (v :: S)) : oW p l e R s m args below meth c Z h0 P ds cells slots pc Ls S := by
  subst hp
  rintro T ⟨locs, X, N, M⟩
  obtain ⟨T', X', e', st⟩ := getS2 X K.1.1 K.1.2.1 K.2.1 (host := "") (Or.inl w) Via.refl rfl (F.ext M.1) (g := mkF m pc Ls S) rfl (hb K.1.2.2.1 hd)
  exact oW.ends st (hr T' ⟨_, X', N, by rw [e']; exact M⟩)
theorem oW.initO (K : oK p s m meth c Z own by0 ml ret nm) {idx : Nat} {a : Addr} {W : Nat} (w1 : (Jvm.Cond.methodLink own idx Lib.objectInit).before a0 Z = true) (w2 : (Jvm.Cond.instanceMethod Lib.objectInit).before a0 Z = true) (w3 : (Jvm.Cond.code Lib.objectInit ⟨#[0xb1]⟩ 1 none).before a0 Z = true) (hd : decode by0 pc = .ok (.invokespecial idx, 3)) (hsz : Ls.size = ml) (hf : 1 ≤ R.frames) (hW : (S.map fun v => v.category).sum ≤ W) (hl : W + 12 ≤ R.locals) (hp : pc + 3 = pc') (hr : oW p l e R s m args below meth c Z h0 P ds cells slots pc' Ls S) : oW p l e R s m args below meth c Z h0 P ds cells slots pc Ls (.ref a :: S) := by
  subst hp
  rintro T ⟨locs, X, N, M⟩
  obtain ⟨T', X', e', st⟩ := Jvm.RoadKit.initO X K.1.1 K.1.2.1 K.2.1 w1 w2 w3 rfl (g := mkF m pc Ls (.ref a :: S)) rfl (hsz.trans K.1.2.2.2.symm) rfl (hb K.1.2.2.1 hd) hf (W := W) (by show 2 * 0 + _ ≤ _; omega) hl
  exact oW.ends st (hr T' ⟨_, X', N, by rw [e']; exact M⟩)
theorem oW.leave (K : oK p s m meth c Z own by0 ml ret nm) {v : Option Value} (hv : ret = none → v = none) (hc : cells ≤ R.cells) (hs : slots ≤ R.slots) (hP : P v ds)
    (st : ∀ (T : State) (locs : List Loc) (fs : List Frame), Stand p l e R s m args below meth c T locs cells slots → (∀ (f : JFrame) (acts : List Action), f.method = m → f.locked = none → f.entered = [] → (doReturn e (T.setTop f) acts v).1 = T.setFrames fs) → Steps p.tables e below (T.setTop (mkF m pc Ls S)) (T.setFrames fs)) : oW p l e R s m args below meth c Z h0 P ds cells slots pc Ls S := by
  rintro T ⟨locs, X, N, M⟩
  obtain ⟨fs, hr, hrun, hended, hW, hsame⟩ := X.leave (v := v) (fun h => hv (K.2.2.1.symm.trans h)) K.2.2.2.1
  exact ⟨_, _, st T locs fs X hr, hrun, hended, v, locs, rfl, ⟨N, ds, hP, M⟩, ⟨_, rfl⟩, hW, hsame.mono hc hs⟩
theorem oW.retB (K : oK p s m meth c Z own by0 ml ret nm) {z : Int32} (hret : ret = some .boolean) (hd : decode by0 pc = .ok (.ireturn, 1)) (hc : cells ≤ R.cells) (hs : slots ≤ R.slots) (hP : P (some (.int (nar .boolean z))) ds) : oW p l e R s m args below meth c Z h0 P ds cells slots pc Ls (.int z :: S) :=
  oW.leave K (by rw [hret]; intro h; cases h) hc hs hP fun T locs fs X hr => retN X K.1.1 (t := .boolean) (K.2.2.1.trans hret) (Or.inl rfl) (hb K.1.2.2.1 hd) hr
theorem oW.retI (K : oK p s m meth c Z own by0 ml ret nm) {z : Int32} (hret : ret = some .int) (hd : decode by0 pc = .ok (.ireturn, 1)) (hc : cells ≤ R.cells) (hs : slots ≤ R.slots) (hP : P (some (.int z)) ds) : oW p l e R s m args below meth c Z h0 P ds cells slots pc Ls (.int z :: S) :=
  oW.leave K (by rw [hret]; intro h; cases h) hc hs hP fun T locs fs X hr => retOut X K.1.1 (K.2.2.1.trans hret) rfl (Or.inl ⟨rfl, Or.inl rfl, _, rfl⟩) (hb K.1.2.2.1 hd) hr
theorem oW.retJ (K : oK p s m meth c Z own by0 ml ret nm) {z : Int64} (hret : ret = some .long) (hd : decode by0 pc = .ok (.lreturn, 1)) (hc : cells ≤ R.cells) (hs : slots ≤ R.slots) (hP : P (some (.long z)) ds) : oW p l e R s m args below meth c Z h0 P ds cells slots pc Ls (.long z :: S) :=
  oW.leave K (by rw [hret]; intro h; cases h) hc hs hP fun T locs fs X hr => retOut X K.1.1 (K.2.2.1.trans hret) rfl (Or.inr (Or.inl ⟨rfl, rfl, _, rfl⟩)) (hb K.1.2.2.1 hd) hr
theorem oW.retD (K : oK p s m meth c Z own by0 ml ret nm) {z : UInt64} (hret : ret = some .double) (hd : decode by0 pc = .ok (.dreturn, 1)) (hc : cells ≤ R.cells) (hs : slots ≤ R.slots) (hP : P (some (.double z)) ds) : oW p l e R s m args below meth c Z h0 P ds cells slots pc Ls (.double z :: S) :=
  oW.leave K (by rw [hret]; intro h; cases h) hc hs hP fun T locs fs X hr => retOut X K.1.1 (K.2.2.1.trans hret) rfl (Or.inr (Or.inr (Or.inl ⟨rfl, rfl, _, rfl⟩))) (hb K.1.2.2.1 hd) hr
theorem oW.retA (K : oK p s m meth c Z own by0 ml ret nm) {a : Addr} {t : FieldType} (hret : ret = some t) (ht : t.isReference = true) (hn : narrow t (.ref a) = .ref a) (hd : decode by0 pc = .ok (.areturn, 1)) (hc : cells ≤ R.cells) (hs : slots ≤ R.slots) (hP : P (some (.ref a)) ds) : oW p l e R s m args below meth c Z h0 P ds cells slots pc Ls (.ref a :: S) :=
  oW.leave K (by rw [hret]; intro h; cases h) hc hs hP fun T locs fs X hr => retOut X K.1.1 (K.2.2.1.trans hret) hn (Or.inr (Or.inr (Or.inr (Or.inr ⟨rfl, ht, rfl⟩)))) (hb K.1.2.2.1 hd) hr
theorem oW.retV (K : oK p s m meth c Z own by0 ml ret nm) (hret : ret = none) (hd : decode by0 pc = .ok (.return_, 1)) (hc : cells ≤ R.cells) (hs : slots ≤ R.slots) (hP : P none ds) : oW p l e R s m args below meth c Z h0 P ds cells slots pc Ls [] :=
  oW.leave K (fun _ => rfl) hc hs hP fun T locs fs X hr => X.returnOut K.1.1 (K.2.2.1.trans hret) (hb K.1.2.2.1 hd) hr
theorem oW.callS (K : oK p s m meth c Z own by0 ml ret nm) {y : MethodName} {index : Nat} {by1 : ByteArray} {ml1 : Nat} {rt1 : Option FieldType} {rm : Room} {argsL : List Value} {P2 : Value → oDs → Prop} {W : Nat} {cells' slots' : Nat}
    (w1 : (Jvm.Cond.methodLink own index y).before a0 Z = true) (w2 : (Jvm.Cond.static y).before a0 Z = true) (w3 : (Jvm.Cond.initialized y.cls).before a0 Z = true) (w4 : (Jvm.Cond.code y by1 ml1 rt1).before a0 Z = true) (hy : y.cls ≠ "java/lang/invoke/MethodHandle" ∧ y.cls ≠ "java/lang/invoke/VarHandle")
    (C : oCtr l Z h0 [] y by1 ml1 rt1 rm argsL.toArray ds (oVal P2)) (hlen : ∀ sig, parseMethodDescriptor y.desc = some sig → argsL.length = sig.parameters.length) (hd : decode by0 pc = .ok (.invokestatic index, 3)) (hst : S' = argsL.reverse ++ S) (hsz : Ls.size = ml) (hW : (S.map fun v => v.category).sum ≤ W) (hf : rm.frames + 1 ≤ R.frames) (hl : W + (ml1 + 11) + rm.locals ≤ R.locals) (hc : cells + rm.cells ≤ R.cells) (hs : slots + rm.slots ≤ R.slots) (hc' : cells + rm.cells = cells') (hs' : slots + rm.slots = slots') (hp : pc + 3 = pc')
    (hr : ∀ w ds', P2 w ds' → oW p l e R s m args below meth c Z h0 P ds' cells' slots' pc' Ls (w :: S)) : oW p l e R s m args below meth c Z h0 P ds cells slots pc Ls S' := by
  subst hp hst hc' hs'
  rintro T ⟨locs, X, N, M⟩
  obtain ⟨v, vm1, ⟨T', L', k', n'⟩, -, X', ⟨Lc, hQ, l', y', z'⟩, st⟩ := Jvm.LawKit.callS X K.1.1 K.2.1 (mvT K.1.2.1 w1) (mvT K.1.2.1 w2) (mvT K.1.2.1 w3) (mvT K.1.2.1 w4) hy (backOf (W := W) (Q := fun v hp L => Fr h0.size L ∧ ∃ ds', (oVal P2) v ds' ∧ oMem Z h0 hp ds') (C T.heap M) K.1.2.1 w4 w3 hf hl) (g := mkF m pc Ls (argsL.reverse ++ S)) rfl (hsz.trans K.1.2.2.2.symm) (argsL := argsL) (rest := S) hlen rfl (by show 2 * 0 + _ ≤ _; omega) (hb K.1.2.2.1 hd) (fun _ _ => ⟨rfl, rfl, hc, hs⟩)
  dsimp only [Pt.U, Pt.locs, Pt.cells, Pt.slots] at X' l' y' z' st hQ
  subst l' y' z'
  obtain ⟨N', ds', hP, M'⟩ := hQ
  obtain ⟨w, rfl, hP⟩ := hP
  exact oW.ends st (hr w ds' hP T' ⟨_, X', N.app N', M'⟩)
theorem oW.callV (K : oK p s m meth c Z own by0 ml ret nm) {y z : MethodName} {C : String} {index : Nat} {by1 : ByteArray} {ml1 : Nat} {rt1 : Option FieldType} {rm : Room} {a : Addr} {argsL : List Value} {P2 : Value → oDs → Prop} {W : Nat} {cells' slots' : Nat}
    (w1 : (Jvm.Cond.methodLink own index y).before a0 Z = true) (w2 : (Jvm.Cond.declares y).before a0 Z = true) (w3 : (Jvm.Cond.selects C y z).before a0 Z = true) (w4 : (Jvm.Cond.instanceMethod z).before a0 Z = true) (w5 : (Jvm.Cond.code z by1 ml1 rt1).before a0 Z = true) (w6 : (Jvm.Cond.initialized z.cls).before a0 Z = true) (hy : y.cls ≠ "java/lang/invoke/MethodHandle" ∧ y.cls ≠ "java/lang/invoke/VarHandle")
    (hnf : ∀ s : State, Z.Warmed39 s.vm → NotFace s y) (hE : ∀ h, oMem Z h0 h ds → Exa Z h a C) (Ct : oCtr l Z h0 [] z by1 ml1 rt1 rm (.ref a :: argsL).toArray ds (oVal P2)) (hlen : ∀ sig, parseMethodDescriptor y.desc = some sig → argsL.length = sig.parameters.length) (hd : decode by0 pc = .ok (.invokevirtual index, 3)) (hst : S' = argsL.reverse ++ .ref a :: S) (hsz : Ls.size = ml) (hW : (S.map fun v => v.category).sum ≤ W) (hf : rm.frames + 1 ≤ R.frames) (hl : W + (ml1 + 11) + rm.locals ≤ R.locals) (hc : cells + rm.cells ≤ R.cells) (hs : slots + rm.slots ≤ R.slots) (hc' : cells + rm.cells = cells') (hs' : slots + rm.slots = slots') (hp : pc + 3 = pc')
    (hr : ∀ w ds', P2 w ds' → oW p l e R s m args below meth c Z h0 P ds' cells' slots' pc' Ls (w :: S)) : oW p l e R s m args below meth c Z h0 P ds cells slots pc Ls S' := by
  subst hp hst hc' hs'
  rintro T ⟨locs, X, N, M⟩
  obtain ⟨cq, kq, qa, qb, qc⟩ := isOf K.1.2.1 rfl (hE T.heap M)
  have w3' : (Jvm.Cond.selects C y z).before args s = true := mvT K.1.2.1 w3
  obtain ⟨v, vm1, ⟨T', L', k', n'⟩, -, X', ⟨Lc, hQ, l', y', z'⟩, st⟩ := X.virtualBack K.1.1 K.2.1 (mvT K.1.2.1 w1) (mvT K.1.2.1 w2) (hnf s K.1.2.1) w3' (mvT K.1.2.1 w4) hy (backOf (W := W) (Q := fun v hp L => Fr h0.size L ∧ ∃ ds', (oVal P2) v ds' ∧ oMem Z h0 hp ds') (Ct T.heap M) K.1.2.1 w5 w6 hf hl) qa qc (g := mkF m pc Ls (argsL.reverse ++ .ref a :: S)) rfl (hsz.trans K.1.2.2.2.symm) (Steps.refl _) (argsL := argsL) (rest := S) hlen rfl (by show 2 * 0 + _ ≤ _; omega) (hb K.1.2.2.1 hd) (fun _ _ => ⟨rfl, rfl, hc, hs⟩)
  dsimp only [Pt.U, Pt.locs, Pt.cells, Pt.slots] at X' l' y' z' st hQ
  subst l' y' z'
  obtain ⟨N', ds', hP, M'⟩ := hQ
  obtain ⟨w, rfl, hP⟩ := hP
  exact oW.ends (fun t k => st.trans k) (hr w ds' hP T' ⟨_, X', N.app N', M'⟩)
theorem oW.callS0 (K : oK p s m meth c Z own by0 ml ret nm) {y : MethodName} {index : Nat} {by1 : ByteArray} {ml1 : Nat} {rt1 : Option FieldType} {rm : Room} {argsL : List Value} {P2 : oDs → Prop} {W : Nat} {cells' slots' : Nat}
    (w1 : (Jvm.Cond.methodLink own index y).before a0 Z = true) (w2 : (Jvm.Cond.static y).before a0 Z = true) (w3 : (Jvm.Cond.initialized y.cls).before a0 Z = true) (w4 : (Jvm.Cond.code y by1 ml1 rt1).before a0 Z = true) (hy : y.cls ≠ "java/lang/invoke/MethodHandle" ∧ y.cls ≠ "java/lang/invoke/VarHandle")
    (C : oCtr l Z h0 [] y by1 ml1 rt1 rm argsL.toArray ds (oVoid P2)) (hlen : ∀ sig, parseMethodDescriptor y.desc = some sig → argsL.length = sig.parameters.length) (hd : decode by0 pc = .ok (.invokestatic index, 3)) (hst : S' = argsL.reverse ++ S) (hsz : Ls.size = ml) (hW : (S.map fun v => v.category).sum ≤ W) (hf : rm.frames + 1 ≤ R.frames) (hl : W + (ml1 + 11) + rm.locals ≤ R.locals) (hc : cells + rm.cells ≤ R.cells) (hs : slots + rm.slots ≤ R.slots) (hc' : cells + rm.cells = cells') (hs' : slots + rm.slots = slots') (hp : pc + 3 = pc')
    (hr : ∀ ds', P2 ds' → oW p l e R s m args below meth c Z h0 P ds' cells' slots' pc' Ls S) : oW p l e R s m args below meth c Z h0 P ds cells slots pc Ls S' := by
  subst hp hst hc' hs'
  rintro T ⟨locs, X, N, M⟩
  obtain ⟨v, vm1, ⟨T', L', k', n'⟩, -, X', ⟨Lc, hQ, l', y', z'⟩, st⟩ := Jvm.LawKit.callS X K.1.1 K.2.1 (mvT K.1.2.1 w1) (mvT K.1.2.1 w2) (mvT K.1.2.1 w3) (mvT K.1.2.1 w4) hy (backOf (W := W) (Q := fun v hp L => Fr h0.size L ∧ ∃ ds', (oVoid P2) v ds' ∧ oMem Z h0 hp ds') (C T.heap M) K.1.2.1 w4 w3 hf hl) (g := mkF m pc Ls (argsL.reverse ++ S)) rfl (hsz.trans K.1.2.2.2.symm) (argsL := argsL) (rest := S) hlen rfl (by show 2 * 0 + _ ≤ _; omega) (hb K.1.2.2.1 hd) (fun _ _ => ⟨rfl, rfl, hc, hs⟩)
  dsimp only [Pt.U, Pt.locs, Pt.cells, Pt.slots] at X' l' y' z' st hQ
  subst l' y' z'
  obtain ⟨N', ds', hP, M'⟩ := hQ
  obtain ⟨rfl, hP⟩ := hP
  exact oW.ends st (hr ds' hP T' ⟨_, X', N.app N', M'⟩)
theorem oW.callI (K : oK p s m meth c Z own by0 ml ret nm) {y : MethodName} {index : Nat} {by1 : ByteArray} {ml1 : Nat} {rm : Room} {a : Addr} {argsL : List Value} {P2 : oDs → Prop} {W : Nat} {cells' slots' : Nat} (hin : y.name = "<init>")
    (w1 : (Jvm.Cond.methodLink own index y).before a0 Z = true) (w2 : (Jvm.Cond.instanceMethod y).before a0 Z = true) (w3 : (Jvm.Cond.initialized y.cls).before a0 Z = true) (w4 : (Jvm.Cond.code y by1 ml1 none).before a0 Z = true) (hy : y.cls ≠ "java/lang/invoke/MethodHandle" ∧ y.cls ≠ "java/lang/invoke/VarHandle")
    (C : oCtr l Z h0 [] y by1 ml1 none rm (.ref a :: argsL).toArray ds (oVoid P2)) (hlen : ∀ sig, parseMethodDescriptor y.desc = some sig → argsL.length = sig.parameters.length) (hd : decode by0 pc = .ok (.invokespecial index, 3)) (hst : S' = argsL.reverse ++ .ref a :: S) (hsz : Ls.size = ml) (hW : (S.map fun v => v.category).sum ≤ W) (hf : rm.frames + 1 ≤ R.frames) (hl : W + (ml1 + 11) + rm.locals ≤ R.locals) (hc : cells + rm.cells ≤ R.cells) (hs : slots + rm.slots ≤ R.slots) (hc' : cells + rm.cells = cells') (hs' : slots + rm.slots = slots') (hp : pc + 3 = pc')
    (hr : ∀ ds', P2 ds' → oW p l e R s m args below meth c Z h0 P ds' cells' slots' pc' Ls S) : oW p l e R s m args below meth c Z h0 P ds cells slots pc Ls S' := by
  subst hp hst hc' hs'
  rintro T ⟨locs, X, N, M⟩
  obtain ⟨v, vm1, ⟨T', L', k', n'⟩, -, X', ⟨Lc, hQ, l', y', z'⟩, st⟩ := X.specialBack K.1.1 hin K.2.1 (mvT K.1.2.1 w1) (mvT K.1.2.1 w2) (mvT K.1.2.1 w4) hy (backOf (W := W) (Q := fun v hp L => Fr h0.size L ∧ ∃ ds', (oVoid P2) v ds' ∧ oMem Z h0 hp ds') (C T.heap M) K.1.2.1 w4 w3 hf hl) (g := mkF m pc Ls (argsL.reverse ++ .ref a :: S)) rfl (hsz.trans K.1.2.2.2.symm) (Steps.refl _) (a := a) (argsL := argsL) (rest := S) hlen rfl (by show 2 * 0 + _ ≤ _; omega) (hb K.1.2.2.1 hd) (fun _ _ => ⟨rfl, rfl, hc, hs⟩)
  dsimp only [Pt.U, Pt.locs, Pt.cells, Pt.slots] at X' l' y' z' st hQ
  subst l' y' z'
  obtain ⟨N', ds', hP, M'⟩ := hQ
  obtain ⟨rfl, hP⟩ := hP
  exact oW.ends (fun t k => st.trans k) (hr ds' hP T' ⟨_, X', N.app N', M'⟩)
theorem oW.callV0 (K : oK p s m meth c Z own by0 ml ret nm) {y z : MethodName} {C : String} {index : Nat} {by1 : ByteArray} {ml1 : Nat} {rt1 : Option FieldType} {rm : Room} {a : Addr} {argsL : List Value} {P2 : oDs → Prop} {W : Nat} {cells' slots' : Nat}
    (w1 : (Jvm.Cond.methodLink own index y).before a0 Z = true) (w2 : (Jvm.Cond.declares y).before a0 Z = true) (w3 : (Jvm.Cond.selects C y z).before a0 Z = true) (w4 : (Jvm.Cond.instanceMethod z).before a0 Z = true) (w5 : (Jvm.Cond.code z by1 ml1 rt1).before a0 Z = true) (w6 : (Jvm.Cond.initialized z.cls).before a0 Z = true) (hy : y.cls ≠ "java/lang/invoke/MethodHandle" ∧ y.cls ≠ "java/lang/invoke/VarHandle")
    (hnf : ∀ s : State, Z.Warmed39 s.vm → NotFace s y) (hE : ∀ h, oMem Z h0 h ds → Exa Z h a C) (Ct : oCtr l Z h0 [] z by1 ml1 rt1 rm (.ref a :: argsL).toArray ds (oVoid P2)) (hlen : ∀ sig, parseMethodDescriptor y.desc = some sig → argsL.length = sig.parameters.length) (hd : decode by0 pc = .ok (.invokevirtual index, 3)) (hst : S' = argsL.reverse ++ .ref a :: S) (hsz : Ls.size = ml) (hW : (S.map fun v => v.category).sum ≤ W) (hf : rm.frames + 1 ≤ R.frames) (hl : W + (ml1 + 11) + rm.locals ≤ R.locals) (hc : cells + rm.cells ≤ R.cells) (hs : slots + rm.slots ≤ R.slots) (hc' : cells + rm.cells = cells') (hs' : slots + rm.slots = slots') (hp : pc + 3 = pc')
    (hr : ∀ ds', P2 ds' → oW p l e R s m args below meth c Z h0 P ds' cells' slots' pc' Ls S) : oW p l e R s m args below meth c Z h0 P ds cells slots pc Ls S' := by
  subst hp hst hc' hs'
  rintro T ⟨locs, X, N, M⟩
  obtain ⟨cq, kq, qa, qb, qc⟩ := isOf K.1.2.1 rfl (hE T.heap M)
  have w3' : (Jvm.Cond.selects C y z).before args s = true := mvT K.1.2.1 w3
  obtain ⟨v, vm1, ⟨T', L', k', n'⟩, -, X', ⟨Lc, hQ, l', y', z'⟩, st⟩ := X.virtualBack K.1.1 K.2.1 (mvT K.1.2.1 w1) (mvT K.1.2.1 w2) (hnf s K.1.2.1) w3' (mvT K.1.2.1 w4) hy (backOf (W := W) (Q := fun v hp L => Fr h0.size L ∧ ∃ ds', (oVoid P2) v ds' ∧ oMem Z h0 hp ds') (Ct T.heap M) K.1.2.1 w5 w6 hf hl) qa qc (g := mkF m pc Ls (argsL.reverse ++ .ref a :: S)) rfl (hsz.trans K.1.2.2.2.symm) (Steps.refl _) (argsL := argsL) (rest := S) hlen rfl (by show 2 * 0 + _ ≤ _; omega) (hb K.1.2.2.1 hd) (fun _ _ => ⟨rfl, rfl, hc, hs⟩)
  dsimp only [Pt.U, Pt.locs, Pt.cells, Pt.slots] at X' l' y' z' st hQ
  subst l' y' z'
  obtain ⟨N', ds', hP, M'⟩ := hQ
  obtain ⟨rfl, hP⟩ := hP
  exact oW.ends (fun t k => st.trans k) (hr ds' hP T' ⟨_, X', N.app N', M'⟩)
theorem oNF {C : String} {y : MethodName} (w : (Jvm.Cond.selects C y y).before a0 Z = true) : ∀ s : State, Z.Warmed39 s.vm → NotFace s y := fun s hZ => notFace_of_selects (args := #[]) (mvT hZ w)
theorem oMem.exa {h : Heap} {i : Nat} {a : Addr} {C : String} {fs : List (String × String × String × Value)} (hi : ds[i]? = some (a, .inr (C, fs))) (M : oMem Z h0 h ds) : Exa Z h a C := (M.2.2 i _ hi).2.1
end Steps
section Nums
open Jvm.FP Jvm.Free.Fl
theorem oN53 : (2 ^ 53 : Nat) = 9007199254740992 := by decide
theorem oTs : (0 : Int32).toInt = 0 ∧ (1 : Int32).toInt = 1 ∧ (2 : Int32).toInt = 2 ∧ (3 : Int32).toInt = 3 ∧ (4 : Int32).toInt = 4 ∧ (5 : Int32).toInt = 5 ∧ (6 : Int32).toInt = 6 ∧ (7 : Int32).toInt = 7 ∧ (8 : Int32).toInt = 8 ∧ (9 : Int32).toInt = 9 ∧ (-1 : Int32).toInt = -1 ∧ (0 : Int64).toInt = 0 ∧ (1 : Int64).toInt = 1 ∧ (2 : Int64).toInt = 2 ∧ (8 : Int64).toInt = 8 ∧ (-1 : Int64).toInt = -1 := by decide
theorem oB32 (x : Int32) : -2147483648 ≤ x.toInt ∧ x.toInt ≤ 2147483647 := by
  have h1 := Int32.le_toInt x; have h2 := Int32.toInt_lt x; omega
theorem oB64 (x : Int64) : -9223372036854775808 ≤ x.toInt ∧ x.toInt ≤ 9223372036854775807 := by
  have h1 := Int64.le_toInt x; have h2 := Int64.toInt_lt x; omega
theorem oNN {i : Int} {x : UInt64} (h : Core.DInt i x) : NoNaN64 x := val64_no.mpr (Core.DInt_ne_nan h)
theorem oI2D {a : Int32} {v : UInt64} (h : v = FP.i2d a) : Core.DInt a.toInt v := h ▸ Core.i2d_int a
theorem oL2D {a : Int64} {v : UInt64} (h : v = FP.l2d a) (b : -9007199254740992 ≤ a.toInt ∧ a.toInt ≤ 9007199254740992) : Core.DInt a.toInt v := h ▸ Core.l2d_int (by have := oN53; omega)
theorem oDK (i : Int) {x : UInt64} (h : FP.l2d (Int64.ofInt i) = x) (b : (Int64.ofInt i).toInt = i ∧ (Int64.ofInt i).toInt.natAbs ≤ 2 ^ 53) : Core.DInt i x := by
  have := Core.l2d_int b.2
  rw [b.1] at this; exact h ▸ this
theorem oDAdd {i j : Int} {x y v : UInt64} (hx : Core.DInt i x) (hy : Core.DInt j y) (h : v = FP.dadd x y) (b : -9007199254740992 ≤ i + j ∧ i + j ≤ 9007199254740992) : Core.DInt (i + j) v := h ▸ Core.dadd_int hx hy (by have := oN53; omega)
theorem oDSub {i j : Int} {x y v : UInt64} (hx : Core.DInt i x) (hy : Core.DInt j y) (h : v = FP.dsub x y) (b : -9007199254740992 ≤ i - j ∧ i - j ≤ 9007199254740992) : Core.DInt (i - j) v := h ▸ Core.dsub_int hx hy (by have := oN53; omega)
theorem oDMul {i j : Int} {x y v : UInt64} (hx : Core.DInt i x) (hy : Core.DInt j y) (h : v = FP.dmul x y) (b : -9007199254740992 ≤ i * j ∧ i * j ≤ 9007199254740992) : Core.DInt (i * j) v := h ▸ Core.dmul_int hx hy (by have := oN53; omega)
theorem oCmp {i j : Int} {x y : UInt64} {o : CmpOp} {v : Int32} (hx : Core.DInt i x) (hy : Core.DInt j y) (h : v = cmpValue (FP.dcmp x y) o) : (v < 0 ↔ i < j) ∧ (v = 0 ↔ i = j) ∧ (0 < v ↔ j < i) := by
  have e : FP.dcmp x y = some (compare i j) := Core.dcmp_int hx hy
  rw [h, e, Core.compare_ite]
  by_cases h1 : i < j
  · have h2 : ¬ i = j := by omega
    have h3 : ¬ j < i := by omega
    simp only [h1, if_true, h2, h3, iff_false, iff_true]
    cases o <;> decide
  · by_cases h2 : i = j
    · have h3 : ¬ j < i := by omega
      simp only [h1, h2, if_false, if_true, iff_true, Int.lt_irrefl, iff_false]
      cases o <;> decide
    · have h3 : j < i := by omega
      simp only [h1, h2, h3, if_false, iff_false, iff_true]
      cases o <;> decide
theorem oLadd {x y z : Int64} (h : z = x + y) (b : -9223372036854775808 ≤ x.toInt + y.toInt ∧ x.toInt + y.toInt ≤ 9223372036854775807) : z.toInt = x.toInt + y.toInt := by
  rw [h, Int64.toInt_add]; exact Int.bmod_eq_of_le (by omega) (by omega)
theorem oLsub {x y z : Int64} (h : z = x - y) (b : -9223372036854775808 ≤ x.toInt - y.toInt ∧ x.toInt - y.toInt ≤ 9223372036854775807) : z.toInt = x.toInt - y.toInt := by
  rw [h, Int64.toInt_sub]; exact Int.bmod_eq_of_le (by omega) (by omega)
theorem oLmul {x y z : Int64} (h : z = x * y) (b : -9223372036854775808 ≤ x.toInt * y.toInt ∧ x.toInt * y.toInt ≤ 9223372036854775807) : z.toInt = x.toInt * y.toInt := by
  rw [h, Int64.toInt_mul]; exact Int.bmod_eq_of_le (by omega) (by omega)
theorem oIadd {x y z : Int32} (h : z = x + y) (b : -2147483648 ≤ x.toInt + y.toInt ∧ x.toInt + y.toInt ≤ 2147483647) : z.toInt = x.toInt + y.toInt := by
  rw [h, Int32.toInt_add]; exact Int.bmod_eq_of_le (by omega) (by omega)
theorem oIsub {x y z : Int32} (h : z = x - y) (b : -2147483648 ≤ x.toInt - y.toInt ∧ x.toInt - y.toInt ≤ 2147483647) : z.toInt = x.toInt - y.toInt := by
  rw [h, Int32.toInt_sub]; exact Int.bmod_eq_of_le (by omega) (by omega)
theorem oImul {x y z : Int32} (h : z = x * y) (b : -2147483648 ≤ x.toInt * y.toInt ∧ x.toInt * y.toInt ≤ 2147483647) : z.toInt = x.toInt * y.toInt := by
  rw [h, Int32.toInt_mul]; exact Int.bmod_eq_of_le (by omega) (by omega)
theorem oI2L {x : Int32} {z : Int64} (h : z = x.toInt64) : z.toInt = x.toInt := by rw [h]; exact Int32.toInt_toInt64 x
theorem oLcmp {x y : Int64} {v : Int32} (h : v = XT.cmpL x y) : (v < 0 ↔ x.toInt < y.toInt) ∧ (v = 0 ↔ x.toInt = y.toInt) ∧ (0 < v ↔ y.toInt < x.toInt) := by
  rw [h, XT.cmpL]
  simp only [Int64.lt_iff_toInt_lt, ← Int64.toInt_inj]
  by_cases h1 : y.toInt < x.toInt
  · have h2 : ¬ x.toInt = y.toInt := by omega
    have h3 : ¬ x.toInt < y.toInt := by omega
    simp only [h1, h2, h3, if_true, iff_true, iff_false]; decide
  · by_cases h2 : x.toInt = y.toInt
    · have h3 : ¬ x.toInt < y.toInt := by omega
      simp only [h1, h2, if_false, if_true, iff_true, Int.lt_irrefl, iff_false]; decide
    · have h3 : x.toInt < y.toInt := by omega
      simp only [h1, h2, h3, if_false, iff_false, iff_true]; decide
theorem oLt32 {x y : Int32} : x < y ↔ x.toInt < y.toInt := Int32.lt_iff_toInt_lt
theorem oEq32 {x y : Int32} : x = y ↔ x.toInt = y.toInt := Int32.toInt_inj.symm
theorem oEq64 {x y : Int64} : x = y ↔ x.toInt = y.toInt := Int64.toInt_inj.symm
theorem oMask (x : Int32) (k : Nat) (hk : k < 2 ^ 31) : ∃ n : Nat, n ≤ k ∧ (x &&& Int32.ofNat k) = Int32.ofNat n := by
  refine ⟨(x &&& Int32.ofNat k).toBitVec.toNat, ?_, ?_⟩
  · have e : (Int32.ofNat k).toBitVec.toNat = k := by
      show (BitVec.ofNat 32 k).toNat = k
      rw [BitVec.toNat_ofNat]; exact Nat.mod_eq_of_lt (by omega)
    rw [Int32.toBitVec_and, BitVec.toNat_and, e]; exact Nat.and_le_right
  · apply Int32.toBitVec_inj.mp
    show _ = BitVec.ofNat 32 _
    rw [BitVec.ofNat_toNat]; simp
theorem oMask3 {x v : Int32} (h : v = x &&& 3) : v = 0 ∨ v = 1 ∨ v = 2 ∨ v = 3 := by
  obtain ⟨n, hn, e⟩ := oMask x 3 (by decide)
  have e' : v = Int32.ofNat n := h.trans e
  have : n = 0 ∨ n = 1 ∨ n = 2 ∨ n = 3 := by omega
  rcases this with rfl | rfl | rfl | rfl
  · exact Or.inl e'
  · exact Or.inr (Or.inl e')
  · exact Or.inr (Or.inr (Or.inl e'))
  · exact Or.inr (Or.inr (Or.inr e'))
theorem oMask1 {x v : Int32} (h : v = x &&& 1) : v = 0 ∨ v = 1 := by
  obtain ⟨n, hn, e⟩ := oMask x 1 (by decide)
  have e' : v = Int32.ofNat n := h.trans e
  have : n = 0 ∨ n = 1 := by omega
  rcases this with rfl | rfl
  · exact Or.inl e'
  · exact Or.inr e'
theorem oMaskR {x v : Int32} (k : Nat) (hk : k < 2 ^ 31) (h : v = x &&& Int32.ofNat k) : 0 ≤ v.toInt ∧ v.toInt ≤ k := by
  obtain ⟨n, hn, e⟩ := oMask x k hk
  rw [h, e, Int32.toInt_ofNat_of_lt (by omega)]; omega
theorem oRem {u v y : Int32} (k : Int) (h : v = u % y) (hy : y.toInt = k) (hu : 0 ≤ u.toInt) : v.toInt = u.toInt % k := h ▸ (c_irem u y k hy).1 hu
/-! how great a double can be: her exponent's field is below K -/
abbrev oMag (K : Nat) (x : UInt64) : Prop := Jvm.Free.Fl.Mag64 K x
theorem oMNN {K : Nat} {x : UInt64} (h : oMag K x) (hK : K ≤ 2047) : NoNaN64 x := (h.fin hK).noNaN
theorem oMI2D {a : Int32} {v : UInt64} (h : v = FP.i2d a) : oMag 1056 v := h ▸ i2d_mag a
theorem oML2D {a : Int64} {v : UInt64} (h : v = FP.l2d a) : oMag 1088 v := h ▸ l2d_mag a
theorem oMMul {A B K : Nat} {x y v : UInt64} (hx : oMag A x) (hy : oMag B y) (h : v = FP.dmul x y) (b : A ≤ 2047 ∧ B ≤ 2047 ∧ A + B - 1025 + 3 ≤ K) : oMag K v := h ▸ (dmul_mag hx hy b.1 b.2.1).mono b.2.2
theorem oMAdd {A K : Nat} {x y v : UInt64} (hx : oMag A x) (hy : oMag A y) (h : v = FP.dadd x y) (b : A ≤ 2047 ∧ A + 2 ≤ K) : oMag K v := h ▸ (dadd_mag hx hy b.1).mono b.2
theorem oMSub {A K : Nat} {x y v : UInt64} (hx : oMag A x) (hy : oMag A y) (h : v = FP.dsub x y) (b : A ≤ 2047 ∧ A + 2 ≤ K) : oMag K v := h ▸ (dsub_mag hx hy b.1).mono b.2
theorem oMDiv {A L K : Nat} {x y v : UInt64} (hx : oMag A x) (hy : Big64 L y) (h : v = FP.ddiv x y) (b : A ≤ 2047 ∧ 1 ≤ L ∧ A + 1021 - L + 3 ≤ K) : oMag K v := h ▸ (ddiv_mag hx hy b.1 b.2.1).mono b.2.2
theorem oSame {x y : UInt64} {o : CmpOp} {v : Int32} (e : v = cmpValue (FP.dcmp x y) o) (h : x = y) (n : NoNaN64 x) : v = 0 := e.trans (dcmpV_eq h n o)
/-! a double that is no NaN, by its value in units of the least double (an infinity counts as the first number past the greatest) -/
def oZv (i : Int) (x : UInt64) : Prop := Core.val64 x ≠ .nan ∧ Core.zval Core.b64 (Core.val64 x) = i
theorem oZv.of {x : UInt64} (h : NoNaN64 x) : oZv (Core.zval Core.b64 (Core.val64 x)) x := ⟨val64_no.mp h, rfl⟩
theorem oZv.nn {i : Int} {x : UInt64} (h : oZv i x) : NoNaN64 x := val64_no.mpr h.1
theorem oZv.int {i : Int} {x : UInt64} (h : Core.DInt i x) : oZv (i * (Core.one64 : Int)) x := ⟨Core.DInt_ne_nan h, Core.DInt_zval h⟩
theorem oZmono {i j : Int} (h : i ≤ j) : i * (Core.one64 : Int) ≤ j * (Core.one64 : Int) := Int.mul_le_mul_of_nonneg_right h (Int.natCast_nonneg _)
theorem oCmpZ {i j : Int} {x y : UInt64} {o : CmpOp} {v : Int32} (hx : oZv i x) (hy : oZv j y) (h : v = cmpValue (FP.dcmp x y) o) : (v < 0 ↔ i < j) ∧ (v = 0 ↔ i = j) ∧ (0 < v ↔ j < i) := by
  have e : FP.dcmp x y = some (compare i j) := by have := Core.dcmp_zval hx.1 hy.1; rw [hx.2, hy.2] at this; exact this
  rw [h, e, Core.compare_ite]
  by_cases h1 : i < j
  · have h2 : ¬ i = j := by omega
    have h3 : ¬ j < i := by omega
    simp only [h1, if_true, h2, h3, iff_false, iff_true]
    cases o <;> decide
  · by_cases h2 : i = j
    · have h3 : ¬ j < i := by omega
      simp only [h1, h2, if_false, if_true, iff_true, Int.lt_irrefl, iff_false]
      cases o <;> decide
    · have h3 : j < i := by omega
      simp only [h1, h2, h3, if_false, iff_false, iff_true]
      cases o <;> decide
end Nums
theorem d1_0 : decode prog_79_method_4_code 0 = .ok (.iconst 0, 1) := by decide +kernel
theorem d1_1 : decode prog_79_method_4_code 1 = .ok (.istore 4, 2) := by decide +kernel
theorem d1_3 : decode prog_79_method_4_code 3 = .ok (.iload_n 1, 1) := by decide +kernel
theorem d1_4 : decode prog_79_method_4_code 4 = .ok (.istore 5, 2) := by decide +kernel
theorem d1_6 : decode prog_79_method_4_code 6 = .ok (.iload 4, 2) := by decide +kernel
theorem d1_8 : decode prog_79_method_4_code 8 = .ok (.iload 5, 2) := by decide +kernel
theorem d1_10 : decode prog_79_method_4_code 10 = .ok (.if_icmp .ge 37, 3) := by decide +kernel
theorem d1_13 : decode prog_79_method_4_code 13 = .ok (.iload 4, 2) := by decide +kernel
theorem d1_15 : decode prog_79_method_4_code 15 = .ok (.iload 5, 2) := by decide +kernel
theorem d1_17 : decode prog_79_method_4_code 17 = .ok (.iadd, 1) := by decide +kernel
theorem d1_18 : decode prog_79_method_4_code 18 = .ok (.iconst 1, 1) := by decide +kernel
theorem d1_19 : decode prog_79_method_4_code 19 = .ok (.iushr, 1) := by decide +kernel
theorem d1_20 : decode prog_79_method_4_code 20 = .ok (.istore 6, 2) := by decide +kernel
theorem d1_22 : decode prog_79_method_4_code 22 = .ok (.dload_n 2, 1) := by decide +kernel
theorem d1_23 : decode prog_79_method_4_code 23 = .ok (.aload_n 0, 1) := by decide +kernel
theorem d1_24 : decode prog_79_method_4_code 24 = .ok (.iload 6, 2) := by decide +kernel
theorem d1_26 : decode prog_79_method_4_code 26 = .ok (.daload, 1) := by decide +kernel
theorem d1_27 : decode prog_79_method_4_code 27 = .ok (.dcmp .g, 1) := by decide +kernel
theorem d1_28 : decode prog_79_method_4_code 28 = .ok (.ifCond .ge 10, 3) := by decide +kernel
theorem d1_31 : decode prog_79_method_4_code 31 = .ok (.iload 6, 2) := by decide +kernel
theorem d1_33 : decode prog_79_method_4_code 33 = .ok (.istore 5, 2) := by decide +kernel
theorem d1_35 : decode prog_79_method_4_code 35 = .ok (.goto 9, 3) := by decide +kernel
theorem d1_38 : decode prog_79_method_4_code 38 = .ok (.iload 6, 2) := by decide +kernel
theorem d1_40 : decode prog_79_method_4_code 40 = .ok (.iconst 1, 1) := by decide +kernel
theorem d1_41 : decode prog_79_method_4_code 41 = .ok (.iadd, 1) := by decide +kernel
theorem d1_42 : decode prog_79_method_4_code 42 = .ok (.istore 4, 2) := by decide +kernel
theorem d1_44 : decode prog_79_method_4_code 44 = .ok (.goto (-38), 3) := by decide +kernel
theorem d1_47 : decode prog_79_method_4_code 47 = .ok (.iload 4, 2) := by decide +kernel
theorem d1_49 : decode prog_79_method_4_code 49 = .ok (.ireturn, 1) := by decide +kernel
set_option maxRecDepth 65536 in
set_option maxHeartbeats 40000000 in
theorem own_fa0 {l : Launch} {Z : State} {a0 : Array Value} {h0 : Heap} (hw : ∀ d ∈ tables_1, d.before a0 Z = true) (a : Addr) (u s0 s1 s2 s3 s4 s5 : UInt64) (U Z0 Z1 Z2 Z3 Z4 Z5 : Int) (hu : oZv U u) (hz0 : oZv Z0 s0) (hz1 : oZv Z1 s1) (hz2 : oZv Z2 s2) (hz3 : oZv Z3 s3) (hz4 : oZv Z4 s4) (hz5 : oZv Z5 s5) (mono : Z0 ≤ Z1 ∧ Z1 ≤ Z2 ∧ Z2 ≤ Z3 ∧ Z3 ≤ Z4 ∧ Z4 ≤ Z5) :
    oCtr l Z h0 [] (⟨"com/example/careful_perplexity/carefulperplexity/RunningSums", "firstAbove", "([DID)I"⟩ : MethodName) prog_79_method_4_code 7 (some .int) ({ frames := 0, cells := 0, slots := 0, locals := 0 } : Room) #[(.ref a), (.int (0 : Int32)), (.double u)] [(a, .inl (.double, [(.double s0), (.double s1), (.double s2), (.double s3), (.double s4), (.double s5)]))] (oVal fun w d => ∃ r : Int32, w = .int r ∧ ((r.toInt = 0)) ∧ d = [(a, .inl (.double, [(.double s0), (.double s1), (.double s2), (.double s3), (.double s4), (.double s5)]))]) := by
  refine oCtr.of (Ls := #[.val (.ref a), .val (.int (0 : Int32)), .val (.double u), .second, .unset, .unset, .unset]) (plainFor_of_name (by first | (simp [plainName, overriddenIn]; done) | decide +kernel)) (fun m => by first | (simp [entryFrame, mkF, argsToLocals, Value.category]; done) | rfl) ?_
  intro p e s m below meth c K
  refine oW.iconst (v := (0 : Int32)) (pc' := 1) K d1_0 (by decide) rfl ?_
  refine oW.istore (Ls' := #[.val (.ref a), .val (.int (0 : Int32)), .val (.double u), .second, .val (.int (0 : Int32)), .unset, .unset]) (pc' := 3) K d1_1 rfl rfl ?_
  refine oW.iloadN (pc' := 4) K d1_3 rfl rfl ?_
  refine oW.istore (Ls' := #[.val (.ref a), .val (.int (0 : Int32)), .val (.double u), .second, .val (.int (0 : Int32)), .val (.int (0 : Int32)), .unset]) (pc' := 6) K d1_4 rfl rfl ?_
  refine oW.iload (pc' := 8) K d1_6 rfl rfl ?_
  refine oW.iload (pc' := 10) K d1_8 rfl rfl ?_
  refine oW.icmp_ge (pc' := 47) (pc3 := 13) K d1_10 (by decide) (by decide) rfl (fun _ => ?_) (fun q => absurd q (by decide))
  refine oW.iload (pc' := 49) K d1_47 rfl rfl ?_
  exact oW.retI K rfl d1_49 (by decide) (by decide) ⟨_, rfl, _, rfl, by first | omega | (have oTs' := oTs; omega) | (simp only [Int32.reduceToInt, Int64.reduceToInt]; omega), rfl⟩
set_option maxRecDepth 65536 in
set_option maxHeartbeats 40000000 in
theorem own_fa1 {l : Launch} {Z : State} {a0 : Array Value} {h0 : Heap} (hw : ∀ d ∈ tables_1, d.before a0 Z = true) (a : Addr) (u s0 s1 s2 s3 s4 s5 : UInt64) (U Z0 Z1 Z2 Z3 Z4 Z5 : Int) (hu : oZv U u) (hz0 : oZv Z0 s0) (hz1 : oZv Z1 s1) (hz2 : oZv Z2 s2) (hz3 : oZv Z3 s3) (hz4 : oZv Z4 s4) (hz5 : oZv Z5 s5) (mono : Z0 ≤ Z1 ∧ Z1 ≤ Z2 ∧ Z2 ≤ Z3 ∧ Z3 ≤ Z4 ∧ Z4 ≤ Z5) :
    oCtr l Z h0 [] (⟨"com/example/careful_perplexity/carefulperplexity/RunningSums", "firstAbove", "([DID)I"⟩ : MethodName) prog_79_method_4_code 7 (some .int) ({ frames := 0, cells := 0, slots := 0, locals := 0 } : Room) #[(.ref a), (.int (1 : Int32)), (.double u)] [(a, .inl (.double, [(.double s0), (.double s1), (.double s2), (.double s3), (.double s4), (.double s5)]))] (oVal fun w d => ∃ r : Int32, w = .int r ∧ ((r.toInt = 0 ∧ U < Z0) ∨ (r.toInt = 1 ∧ ¬ U < Z0)) ∧ d = [(a, .inl (.double, [(.double s0), (.double s1), (.double s2), (.double s3), (.double s4), (.double s5)]))]) := by
  refine oCtr.of (Ls := #[.val (.ref a), .val (.int (1 : Int32)), .val (.double u), .second, .unset, .unset, .unset]) (plainFor_of_name (by first | (simp [plainName, overriddenIn]; done) | decide +kernel)) (fun m => by first | (simp [entryFrame, mkF, argsToLocals, Value.category]; done) | rfl) ?_
  intro p e s m below meth c K
  refine oW.iconst (v := (0 : Int32)) (pc' := 1) K d1_0 (by decide) rfl ?_
  refine oW.istore (Ls' := #[.val (.ref a), .val (.int (1 : Int32)), .val (.double u), .second, .val (.int (0 : Int32)), .unset, .unset]) (pc' := 3) K d1_1 rfl rfl ?_
  refine oW.iloadN (pc' := 4) K d1_3 rfl rfl ?_
  refine oW.istore (Ls' := #[.val (.ref a), .val (.int (1 : Int32)), .val (.double u), .second, .val (.int (0 : Int32)), .val (.int (1 : Int32)), .unset]) (pc' := 6) K d1_4 rfl rfl ?_
  refine oW.iload (pc' := 8) K d1_6 rfl rfl ?_
  refine oW.iload (pc' := 10) K d1_8 rfl rfl ?_
  refine oW.icmp_ge (pc' := 47) (pc3 := 13) K d1_10 (by decide) (by decide) rfl (fun q => absurd q (by decide)) (fun _ => ?_)
  refine oW.iload (pc' := 15) K d1_13 rfl rfl ?_
  refine oW.iload (pc' := 17) K d1_15 rfl rfl ?_
  refine oW.iadd (v := (1 : Int32)) (pc' := 18) K d1_17 (by decide) rfl ?_
  refine oW.iconst (v := (1 : Int32)) (pc' := 19) K d1_18 (by decide) rfl ?_
  refine oW.iushr (v := (0 : Int32)) (pc' := 20) K d1_19 (by decide) rfl ?_
  refine oW.istore (Ls' := #[.val (.ref a), .val (.int (1 : Int32)), .val (.double u), .second, .val (.int (0 : Int32)), .val (.int (1 : Int32)), .val (.int (0 : Int32))]) (pc' := 22) K d1_20 rfl rfl ?_
  refine oW.dloadN (pc' := 23) K d1_22 rfl rfl ?_
  refine oW.aloadN (pc' := 24) K d1_23 rfl rfl rfl ?_
  refine oW.iload (pc' := 26) K d1_24 rfl rfl ?_
  refine oW.daload (i := 0) (k := 0) (pc' := 27) K d1_26 rfl rfl (by decide) rfl rfl ?_
  obtain ⟨v27, ev27⟩ : ∃ z : Int32, z = cmpValue (FP.dcmp u s0) .g := ⟨_, rfl⟩
  refine oW.dcmp (pc' := 28) K d1_27 ev27 rfl ?_
  refine oW.if_ge (pc' := 38) (pc3 := 31) K d1_28 (by decide) (by decide) rfl (fun c28 => ?_) (fun c28 => ?_)
  · rw [(oCmpZ hu hz0 ev27).1] at c28
    refine oW.iload (pc' := 40) K d1_38 rfl rfl ?_
    refine oW.iconst (v := (1 : Int32)) (pc' := 41) K d1_40 (by decide) rfl ?_
    refine oW.iadd (v := (1 : Int32)) (pc' := 42) K d1_41 (by decide) rfl ?_
    refine oW.istore (Ls' := #[.val (.ref a), .val (.int (1 : Int32)), .val (.double u), .second, .val (.int (1 : Int32)), .val (.int (1 : Int32)), .val (.int (0 : Int32))]) (pc' := 44) K d1_42 rfl rfl ?_
    refine oW.goto (pc' := 6) K d1_44 (by decide) (by decide) ?_
    refine oW.iload (pc' := 8) K d1_6 rfl rfl ?_
    refine oW.iload (pc' := 10) K d1_8 rfl rfl ?_
    refine oW.icmp_ge (pc' := 47) (pc3 := 13) K d1_10 (by decide) (by decide) rfl (fun _ => ?_) (fun q => absurd q (by decide))
    refine oW.iload (pc' := 49) K d1_47 rfl rfl ?_
    exact oW.retI K rfl d1_49 (by decide) (by decide) ⟨_, rfl, _, rfl, by first | omega | (have oTs' := oTs; omega) | (simp only [Int32.reduceToInt, Int64.reduceToInt]; omega), rfl⟩
  · rw [(oCmpZ hu hz0 ev27).1] at c28
    refine oW.iload (pc' := 33) K d1_31 rfl rfl ?_
    refine oW.istore (Ls' := #[.val (.ref a), .val (.int (1 : Int32)), .val (.double u), .second, .val (.int (0 : Int32)), .val (.int (0 : Int32)), .val (.int (0 : Int32))]) (pc' := 35) K d1_33 rfl rfl ?_
    refine oW.goto (pc' := 44) K d1_35 (by decide) (by decide) ?_
    refine oW.goto (pc' := 6) K d1_44 (by decide) (by decide) ?_
    refine oW.iload (pc' := 8) K d1_6 rfl rfl ?_
    refine oW.iload (pc' := 10) K d1_8 rfl rfl ?_
    refine oW.icmp_ge (pc' := 47) (pc3 := 13) K d1_10 (by decide) (by decide) rfl (fun _ => ?_) (fun q => absurd q (by decide))
    refine oW.iload (pc' := 49) K d1_47 rfl rfl ?_
    exact oW.retI K rfl d1_49 (by decide) (by decide) ⟨_, rfl, _, rfl, by first | omega | (have oTs' := oTs; omega) | (simp only [Int32.reduceToInt, Int64.reduceToInt]; omega), rfl⟩
set_option maxRecDepth 65536 in
set_option maxHeartbeats 40000000 in
theorem own_fa2 {l : Launch} {Z : State} {a0 : Array Value} {h0 : Heap} (hw : ∀ d ∈ tables_1, d.before a0 Z = true) (a : Addr) (u s0 s1 s2 s3 s4 s5 : UInt64) (U Z0 Z1 Z2 Z3 Z4 Z5 : Int) (hu : oZv U u) (hz0 : oZv Z0 s0) (hz1 : oZv Z1 s1) (hz2 : oZv Z2 s2) (hz3 : oZv Z3 s3) (hz4 : oZv Z4 s4) (hz5 : oZv Z5 s5) (mono : Z0 ≤ Z1 ∧ Z1 ≤ Z2 ∧ Z2 ≤ Z3 ∧ Z3 ≤ Z4 ∧ Z4 ≤ Z5) :
    oCtr l Z h0 [] (⟨"com/example/careful_perplexity/carefulperplexity/RunningSums", "firstAbove", "([DID)I"⟩ : MethodName) prog_79_method_4_code 7 (some .int) ({ frames := 0, cells := 0, slots := 0, locals := 0 } : Room) #[(.ref a), (.int (2 : Int32)), (.double u)] [(a, .inl (.double, [(.double s0), (.double s1), (.double s2), (.double s3), (.double s4), (.double s5)]))] (oVal fun w d => ∃ r : Int32, w = .int r ∧ ((r.toInt = 0 ∧ U < Z0) ∨ (r.toInt = 1 ∧ ¬ U < Z0 ∧ U < Z1) ∨ (r.toInt = 2 ∧ ¬ U < Z0 ∧ ¬ U < Z1)) ∧ d = [(a, .inl (.double, [(.double s0), (.double s1), (.double s2), (.double s3), (.double s4), (.double s5)]))]) := by
  refine oCtr.of (Ls := #[.val (.ref a), .val (.int (2 : Int32)), .val (.double u), .second, .unset, .unset, .unset]) (plainFor_of_name (by first | (simp [plainName, overriddenIn]; done) | decide +kernel)) (fun m => by first | (simp [entryFrame, mkF, argsToLocals, Value.category]; done) | rfl) ?_
  intro p e s m below meth c K
  refine oW.iconst (v := (0 : Int32)) (pc' := 1) K d1_0 (by decide) rfl ?_
  refine oW.istore (Ls' := #[.val (.ref a), .val (.int (2 : Int32)), .val (.double u), .second, .val (.int (0 : Int32)), .unset, .unset]) (pc' := 3) K d1_1 rfl rfl ?_
  refine oW.iloadN (pc' := 4) K d1_3 rfl rfl ?_
  refine oW.istore (Ls' := #[.val (.ref a), .val (.int (2 : Int32)), .val (.double u), .second, .val (.int (0 : Int32)), .val (.int (2 : Int32)), .unset]) (pc' := 6) K d1_4 rfl rfl ?_
  refine oW.iload (pc' := 8) K d1_6 rfl rfl ?_
  refine oW.iload (pc' := 10) K d1_8 rfl rfl ?_
  refine oW.icmp_ge (pc' := 47) (pc3 := 13) K d1_10 (by decide) (by decide) rfl (fun q => absurd q (by decide)) (fun _ => ?_)
  refine oW.iload (pc' := 15) K d1_13 rfl rfl ?_
  refine oW.iload (pc' := 17) K d1_15 rfl rfl ?_
  refine oW.iadd (v := (2 : Int32)) (pc' := 18) K d1_17 (by decide) rfl ?_
  refine oW.iconst (v := (1 : Int32)) (pc' := 19) K d1_18 (by decide) rfl ?_
  refine oW.iushr (v := (1 : Int32)) (pc' := 20) K d1_19 (by decide) rfl ?_
  refine oW.istore (Ls' := #[.val (.ref a), .val (.int (2 : Int32)), .val (.double u), .second, .val (.int (0 : Int32)), .val (.int (2 : Int32)), .val (.int (1 : Int32))]) (pc' := 22) K d1_20 rfl rfl ?_
  refine oW.dloadN (pc' := 23) K d1_22 rfl rfl ?_
  refine oW.aloadN (pc' := 24) K d1_23 rfl rfl rfl ?_
  refine oW.iload (pc' := 26) K d1_24 rfl rfl ?_
  refine oW.daload (i := 0) (k := 1) (pc' := 27) K d1_26 rfl rfl (by decide) rfl rfl ?_
  obtain ⟨v27, ev27⟩ : ∃ z : Int32, z = cmpValue (FP.dcmp u s1) .g := ⟨_, rfl⟩
  refine oW.dcmp (pc' := 28) K d1_27 ev27 rfl ?_
  refine oW.if_ge (pc' := 38) (pc3 := 31) K d1_28 (by decide) (by decide) rfl (fun c28 => ?_) (fun c28 => ?_)
  · rw [(oCmpZ hu hz1 ev27).1] at c28
    refine oW.iload (pc' := 40) K d1_38 rfl rfl ?_
    refine oW.iconst (v := (1 : Int32)) (pc' := 41) K d1_40 (by decide) rfl ?_
    refine oW.iadd (v := (2 : Int32)) (pc' := 42) K d1_41 (by decide) rfl ?_
    refine oW.istore (Ls' := #[.val (.ref a), .val (.int (2 : Int32)), .val (.double u), .second, .val (.int (2 : Int32)), .val (.int (2 : Int32)), .val (.int (1 : Int32))]) (pc' := 44) K d1_42 rfl rfl ?_
    refine oW.goto (pc' := 6) K d1_44 (by decide) (by decide) ?_
    refine oW.iload (pc' := 8) K d1_6 rfl rfl ?_
    refine oW.iload (pc' := 10) K d1_8 rfl rfl ?_
    refine oW.icmp_ge (pc' := 47) (pc3 := 13) K d1_10 (by decide) (by decide) rfl (fun _ => ?_) (fun q => absurd q (by decide))
    refine oW.iload (pc' := 49) K d1_47 rfl rfl ?_
    exact oW.retI K rfl d1_49 (by decide) (by decide) ⟨_, rfl, _, rfl, by first | omega | (have oTs' := oTs; omega) | (simp only [Int32.reduceToInt, Int64.reduceToInt]; omega), rfl⟩
  · rw [(oCmpZ hu hz1 ev27).1] at c28
    refine oW.iload (pc' := 33) K d1_31 rfl rfl ?_
    refine oW.istore (Ls' := #[.val (.ref a), .val (.int (2 : Int32)), .val (.double u), .second, .val (.int (0 : Int32)), .val (.int (1 : Int32)), .val (.int (1 : Int32))]) (pc' := 35) K d1_33 rfl rfl ?_
    refine oW.goto (pc' := 44) K d1_35 (by decide) (by decide) ?_
    refine oW.goto (pc' := 6) K d1_44 (by decide) (by decide) ?_
    refine oW.iload (pc' := 8) K d1_6 rfl rfl ?_
    refine oW.iload (pc' := 10) K d1_8 rfl rfl ?_
    refine oW.icmp_ge (pc' := 47) (pc3 := 13) K d1_10 (by decide) (by decide) rfl (fun q => absurd q (by decide)) (fun _ => ?_)
    refine oW.iload (pc' := 15) K d1_13 rfl rfl ?_
    refine oW.iload (pc' := 17) K d1_15 rfl rfl ?_
    refine oW.iadd (v := (1 : Int32)) (pc' := 18) K d1_17 (by decide) rfl ?_
    refine oW.iconst (v := (1 : Int32)) (pc' := 19) K d1_18 (by decide) rfl ?_
    refine oW.iushr (v := (0 : Int32)) (pc' := 20) K d1_19 (by decide) rfl ?_
    refine oW.istore (Ls' := #[.val (.ref a), .val (.int (2 : Int32)), .val (.double u), .second, .val (.int (0 : Int32)), .val (.int (1 : Int32)), .val (.int (0 : Int32))]) (pc' := 22) K d1_20 rfl rfl ?_
    refine oW.dloadN (pc' := 23) K d1_22 rfl rfl ?_
    refine oW.aloadN (pc' := 24) K d1_23 rfl rfl rfl ?_
    refine oW.iload (pc' := 26) K d1_24 rfl rfl ?_
    refine oW.daload (i := 0) (k := 0) (pc' := 27) K d1_26 rfl rfl (by decide) rfl rfl ?_
    obtain ⟨v27_1, ev27_1⟩ : ∃ z : Int32, z = cmpValue (FP.dcmp u s0) .g := ⟨_, rfl⟩
    refine oW.dcmp (pc' := 28) K d1_27 ev27_1 rfl ?_
    refine oW.if_ge (pc' := 38) (pc3 := 31) K d1_28 (by decide) (by decide) rfl (fun c28_1 => ?_) (fun c28_1 => ?_)
    · rw [(oCmpZ hu hz0 ev27_1).1] at c28_1
      refine oW.iload (pc' := 40) K d1_38 rfl rfl ?_
      refine oW.iconst (v := (1 : Int32)) (pc' := 41) K d1_40 (by decide) rfl ?_
      refine oW.iadd (v := (1 : Int32)) (pc' := 42) K d1_41 (by decide) rfl ?_
      refine oW.istore (Ls' := #[.val (.ref a), .val (.int (2 : Int32)), .val (.double u), .second, .val (.int (1 : Int32)), .val (.int (1 : Int32)), .val (.int (0 : Int32))]) (pc' := 44) K d1_42 rfl rfl ?_
      refine oW.goto (pc' := 6) K d1_44 (by decide) (by decide) ?_
      refine oW.iload (pc' := 8) K d1_6 rfl rfl ?_
      refine oW.iload (pc' := 10) K d1_8 rfl rfl ?_
      refine oW.icmp_ge (pc' := 47) (pc3 := 13) K d1_10 (by decide) (by decide) rfl (fun _ => ?_) (fun q => absurd q (by decide))
      refine oW.iload (pc' := 49) K d1_47 rfl rfl ?_
      exact oW.retI K rfl d1_49 (by decide) (by decide) ⟨_, rfl, _, rfl, by first | omega | (have oTs' := oTs; omega) | (simp only [Int32.reduceToInt, Int64.reduceToInt]; omega), rfl⟩
    · rw [(oCmpZ hu hz0 ev27_1).1] at c28_1
      refine oW.iload (pc' := 33) K d1_31 rfl rfl ?_
      refine oW.istore (Ls' := #[.val (.ref a), .val (.int (2 : Int32)), .val (.double u), .second, .val (.int (0 : Int32)), .val (.int (0 : Int32)), .val (.int (0 : Int32))]) (pc' := 35) K d1_33 rfl rfl ?_
      refine oW.goto (pc' := 44) K d1_35 (by decide) (by decide) ?_
      refine oW.goto (pc' := 6) K d1_44 (by decide) (by decide) ?_
      refine oW.iload (pc' := 8) K d1_6 rfl rfl ?_
      refine oW.iload (pc' := 10) K d1_8 rfl rfl ?_
      refine oW.icmp_ge (pc' := 47) (pc3 := 13) K d1_10 (by decide) (by decide) rfl (fun _ => ?_) (fun q => absurd q (by decide))
      refine oW.iload (pc' := 49) K d1_47 rfl rfl ?_
      exact oW.retI K rfl d1_49 (by decide) (by decide) ⟨_, rfl, _, rfl, by first | omega | (have oTs' := oTs; omega) | (simp only [Int32.reduceToInt, Int64.reduceToInt]; omega), rfl⟩
set_option maxRecDepth 65536 in
set_option maxHeartbeats 40000000 in
theorem own_fa3 {l : Launch} {Z : State} {a0 : Array Value} {h0 : Heap} (hw : ∀ d ∈ tables_1, d.before a0 Z = true) (a : Addr) (u s0 s1 s2 s3 s4 s5 : UInt64) (U Z0 Z1 Z2 Z3 Z4 Z5 : Int) (hu : oZv U u) (hz0 : oZv Z0 s0) (hz1 : oZv Z1 s1) (hz2 : oZv Z2 s2) (hz3 : oZv Z3 s3) (hz4 : oZv Z4 s4) (hz5 : oZv Z5 s5) (mono : Z0 ≤ Z1 ∧ Z1 ≤ Z2 ∧ Z2 ≤ Z3 ∧ Z3 ≤ Z4 ∧ Z4 ≤ Z5) :
    oCtr l Z h0 [] (⟨"com/example/careful_perplexity/carefulperplexity/RunningSums", "firstAbove", "([DID)I"⟩ : MethodName) prog_79_method_4_code 7 (some .int) ({ frames := 0, cells := 0, slots := 0, locals := 0 } : Room) #[(.ref a), (.int (3 : Int32)), (.double u)] [(a, .inl (.double, [(.double s0), (.double s1), (.double s2), (.double s3), (.double s4), (.double s5)]))] (oVal fun w d => ∃ r : Int32, w = .int r ∧ ((r.toInt = 0 ∧ U < Z0) ∨ (r.toInt = 1 ∧ ¬ U < Z0 ∧ U < Z1) ∨ (r.toInt = 2 ∧ ¬ U < Z0 ∧ ¬ U < Z1 ∧ U < Z2) ∨ (r.toInt = 3 ∧ ¬ U < Z0 ∧ ¬ U < Z1 ∧ ¬ U < Z2)) ∧ d = [(a, .inl (.double, [(.double s0), (.double s1), (.double s2), (.double s3), (.double s4), (.double s5)]))]) := by
  refine oCtr.of (Ls := #[.val (.ref a), .val (.int (3 : Int32)), .val (.double u), .second, .unset, .unset, .unset]) (plainFor_of_name (by first | (simp [plainName, overriddenIn]; done) | decide +kernel)) (fun m => by first | (simp [entryFrame, mkF, argsToLocals, Value.category]; done) | rfl) ?_
  intro p e s m below meth c K
  refine oW.iconst (v := (0 : Int32)) (pc' := 1) K d1_0 (by decide) rfl ?_
  refine oW.istore (Ls' := #[.val (.ref a), .val (.int (3 : Int32)), .val (.double u), .second, .val (.int (0 : Int32)), .unset, .unset]) (pc' := 3) K d1_1 rfl rfl ?_
  refine oW.iloadN (pc' := 4) K d1_3 rfl rfl ?_
  refine oW.istore (Ls' := #[.val (.ref a), .val (.int (3 : Int32)), .val (.double u), .second, .val (.int (0 : Int32)), .val (.int (3 : Int32)), .unset]) (pc' := 6) K d1_4 rfl rfl ?_
  refine oW.iload (pc' := 8) K d1_6 rfl rfl ?_
  refine oW.iload (pc' := 10) K d1_8 rfl rfl ?_
  refine oW.icmp_ge (pc' := 47) (pc3 := 13) K d1_10 (by decide) (by decide) rfl (fun q => absurd q (by decide)) (fun _ => ?_)
  refine oW.iload (pc' := 15) K d1_13 rfl rfl ?_
  refine oW.iload (pc' := 17) K d1_15 rfl rfl ?_
  refine oW.iadd (v := (3 : Int32)) (pc' := 18) K d1_17 (by decide) rfl ?_
  refine oW.iconst (v := (1 : Int32)) (pc' := 19) K d1_18 (by decide) rfl ?_
  refine oW.iushr (v := (1 : Int32)) (pc' := 20) K d1_19 (by decide) rfl ?_
  refine oW.istore (Ls' := #[.val (.ref a), .val (.int (3 : Int32)), .val (.double u), .second, .val (.int (0 : Int32)), .val (.int (3 : Int32)), .val (.int (1 : Int32))]) (pc' := 22) K d1_20 rfl rfl ?_
  refine oW.dloadN (pc' := 23) K d1_22 rfl rfl ?_
  refine oW.aloadN (pc' := 24) K d1_23 rfl rfl rfl ?_
  refine oW.iload (pc' := 26) K d1_24 rfl rfl ?_
  refine oW.daload (i := 0) (k := 1) (pc' := 27) K d1_26 rfl rfl (by decide) rfl rfl ?_
  obtain ⟨v27, ev27⟩ : ∃ z : Int32, z = cmpValue (FP.dcmp u s1) .g := ⟨_, rfl⟩
  refine oW.dcmp (pc' := 28) K d1_27 ev27 rfl ?_
  refine oW.if_ge (pc' := 38) (pc3 := 31) K d1_28 (by decide) (by decide) rfl (fun c28 => ?_) (fun c28 => ?_)
  · rw [(oCmpZ hu hz1 ev27).1] at c28
    refine oW.iload (pc' := 40) K d1_38 rfl rfl ?_
    refine oW.iconst (v := (1 : Int32)) (pc' := 41) K d1_40 (by decide) rfl ?_
    refine oW.iadd (v := (2 : Int32)) (pc' := 42) K d1_41 (by decide) rfl ?_
    refine oW.istore (Ls' := #[.val (.ref a), .val (.int (3 : Int32)), .val (.double u), .second, .val (.int (2 : Int32)), .val (.int (3 : Int32)), .val (.int (1 : Int32))]) (pc' := 44) K d1_42 rfl rfl ?_
    refine oW.goto (pc' := 6) K d1_44 (by decide) (by decide) ?_
    refine oW.iload (pc' := 8) K d1_6 rfl rfl ?_
    refine oW.iload (pc' := 10) K d1_8 rfl rfl ?_
    refine oW.icmp_ge (pc' := 47) (pc3 := 13) K d1_10 (by decide) (by decide) rfl (fun q => absurd q (by decide)) (fun _ => ?_)
    refine oW.iload (pc' := 15) K d1_13 rfl rfl ?_
    refine oW.iload (pc' := 17) K d1_15 rfl rfl ?_
    refine oW.iadd (v := (5 : Int32)) (pc' := 18) K d1_17 (by decide) rfl ?_
    refine oW.iconst (v := (1 : Int32)) (pc' := 19) K d1_18 (by decide) rfl ?_
    refine oW.iushr (v := (2 : Int32)) (pc' := 20) K d1_19 (by decide) rfl ?_
    refine oW.istore (Ls' := #[.val (.ref a), .val (.int (3 : Int32)), .val (.double u), .second, .val (.int (2 : Int32)), .val (.int (3 : Int32)), .val (.int (2 : Int32))]) (pc' := 22) K d1_20 rfl rfl ?_
    refine oW.dloadN (pc' := 23) K d1_22 rfl rfl ?_
    refine oW.aloadN (pc' := 24) K d1_23 rfl rfl rfl ?_
    refine oW.iload (pc' := 26) K d1_24 rfl rfl ?_
    refine oW.daload (i := 0) (k := 2) (pc' := 27) K d1_26 rfl rfl (by decide) rfl rfl ?_
    obtain ⟨v27_1, ev27_1⟩ : ∃ z : Int32, z = cmpValue (FP.dcmp u s2) .g := ⟨_, rfl⟩
    refine oW.dcmp (pc' := 28) K d1_27 ev27_1 rfl ?_
    refine oW.if_ge (pc' := 38) (pc3 := 31) K d1_28 (by decide) (by decide) rfl (fun c28_1 => ?_) (fun c28_1 => ?_)
    · rw [(oCmpZ hu hz2 ev27_1).1] at c28_1
      refine oW.iload (pc' := 40) K d1_38 rfl rfl ?_
      refine oW.iconst (v := (1 : Int32)) (pc' := 41) K d1_40 (by decide) rfl ?_
      refine oW.iadd (v := (3 : Int32)) (pc' := 42) K d1_41 (by decide) rfl ?_
      refine oW.istore (Ls' := #[.val (.ref a), .val (.int (3 : Int32)), .val (.double u), .second, .val (.int (3 : Int32)), .val (.int (3 : Int32)), .val (.int (2 : Int32))]) (pc' := 44) K d1_42 rfl rfl ?_
      refine oW.goto (pc' := 6) K d1_44 (by decide) (by decide) ?_
      refine oW.iload (pc' := 8) K d1_6 rfl rfl ?_
      refine oW.iload (pc' := 10) K d1_8 rfl rfl ?_
      refine oW.icmp_ge (pc' := 47) (pc3 := 13) K d1_10 (by decide) (by decide) rfl (fun _ => ?_) (fun q => absurd q (by decide))
      refine oW.iload (pc' := 49) K d1_47 rfl rfl ?_
      exact oW.retI K rfl d1_49 (by decide) (by decide) ⟨_, rfl, _, rfl, by first | omega | (have oTs' := oTs; omega) | (simp only [Int32.reduceToInt, Int64.reduceToInt]; omega), rfl⟩
    · rw [(oCmpZ hu hz2 ev27_1).1] at c28_1
      refine oW.iload (pc' := 33) K d1_31 rfl rfl ?_
      refine oW.istore (Ls' := #[.val (.ref a), .val (.int (3 : Int32)), .val (.double u), .second, .val (.int (2 : Int32)), .val (.int (2 : Int32)), .val (.int (2 : Int32))]) (pc' := 35) K d1_33 rfl rfl ?_
      refine oW.goto (pc' := 44) K d1_35 (by decide) (by decide) ?_
      refine oW.goto (pc' := 6) K d1_44 (by decide) (by decide) ?_
      refine oW.iload (pc' := 8) K d1_6 rfl rfl ?_
      refine oW.iload (pc' := 10) K d1_8 rfl rfl ?_
      refine oW.icmp_ge (pc' := 47) (pc3 := 13) K d1_10 (by decide) (by decide) rfl (fun _ => ?_) (fun q => absurd q (by decide))
      refine oW.iload (pc' := 49) K d1_47 rfl rfl ?_
      exact oW.retI K rfl d1_49 (by decide) (by decide) ⟨_, rfl, _, rfl, by first | omega | (have oTs' := oTs; omega) | (simp only [Int32.reduceToInt, Int64.reduceToInt]; omega), rfl⟩
  · rw [(oCmpZ hu hz1 ev27).1] at c28
    refine oW.iload (pc' := 33) K d1_31 rfl rfl ?_
    refine oW.istore (Ls' := #[.val (.ref a), .val (.int (3 : Int32)), .val (.double u), .second, .val (.int (0 : Int32)), .val (.int (1 : Int32)), .val (.int (1 : Int32))]) (pc' := 35) K d1_33 rfl rfl ?_
    refine oW.goto (pc' := 44) K d1_35 (by decide) (by decide) ?_
    refine oW.goto (pc' := 6) K d1_44 (by decide) (by decide) ?_
    refine oW.iload (pc' := 8) K d1_6 rfl rfl ?_
    refine oW.iload (pc' := 10) K d1_8 rfl rfl ?_
    refine oW.icmp_ge (pc' := 47) (pc3 := 13) K d1_10 (by decide) (by decide) rfl (fun q => absurd q (by decide)) (fun _ => ?_)
    refine oW.iload (pc' := 15) K d1_13 rfl rfl ?_
    refine oW.iload (pc' := 17) K d1_15 rfl rfl ?_
    refine oW.iadd (v := (1 : Int32)) (pc' := 18) K d1_17 (by decide) rfl ?_
    refine oW.iconst (v := (1 : Int32)) (pc' := 19) K d1_18 (by decide) rfl ?_
    refine oW.iushr (v := (0 : Int32)) (pc' := 20) K d1_19 (by decide) rfl ?_
    refine oW.istore (Ls' := #[.val (.ref a), .val (.int (3 : Int32)), .val (.double u), .second, .val (.int (0 : Int32)), .val (.int (1 : Int32)), .val (.int (0 : Int32))]) (pc' := 22) K d1_20 rfl rfl ?_
    refine oW.dloadN (pc' := 23) K d1_22 rfl rfl ?_
    refine oW.aloadN (pc' := 24) K d1_23 rfl rfl rfl ?_
    refine oW.iload (pc' := 26) K d1_24 rfl rfl ?_
    refine oW.daload (i := 0) (k := 0) (pc' := 27) K d1_26 rfl rfl (by decide) rfl rfl ?_
    obtain ⟨v27_1, ev27_1⟩ : ∃ z : Int32, z = cmpValue (FP.dcmp u s0) .g := ⟨_, rfl⟩
    refine oW.dcmp (pc' := 28) K d1_27 ev27_1 rfl ?_
    refine oW.if_ge (pc' := 38) (pc3 := 31) K d1_28 (by decide) (by decide) rfl (fun c28_1 => ?_) (fun c28_1 => ?_)
    · rw [(oCmpZ hu hz0 ev27_1).1] at c28_1
      refine oW.iload (pc' := 40) K d1_38 rfl rfl ?_
      refine oW.iconst (v := (1 : Int32)) (pc' := 41) K d1_40 (by decide) rfl ?_
      refine oW.iadd (v := (1 : Int32)) (pc' := 42) K d1_41 (by decide) rfl ?_
      refine oW.istore (Ls' := #[.val (.ref a), .val (.int (3 : Int32)), .val (.double u), .second, .val (.int (1 : Int32)), .val (.int (1 : Int32)), .val (.int (0 : Int32))]) (pc' := 44) K d1_42 rfl rfl ?_
      refine oW.goto (pc' := 6) K d1_44 (by decide) (by decide) ?_
      refine oW.iload (pc' := 8) K d1_6 rfl rfl ?_
      refine oW.iload (pc' := 10) K d1_8 rfl rfl ?_
      refine oW.icmp_ge (pc' := 47) (pc3 := 13) K d1_10 (by decide) (by decide) rfl (fun _ => ?_) (fun q => absurd q (by decide))
      refine oW.iload (pc' := 49) K d1_47 rfl rfl ?_
      exact oW.retI K rfl d1_49 (by decide) (by decide) ⟨_, rfl, _, rfl, by first | omega | (have oTs' := oTs; omega) | (simp only [Int32.reduceToInt, Int64.reduceToInt]; omega), rfl⟩
    · rw [(oCmpZ hu hz0 ev27_1).1] at c28_1
      refine oW.iload (pc' := 33) K d1_31 rfl rfl ?_
      refine oW.istore (Ls' := #[.val (.ref a), .val (.int (3 : Int32)), .val (.double u), .second, .val (.int (0 : Int32)), .val (.int (0 : Int32)), .val (.int (0 : Int32))]) (pc' := 35) K d1_33 rfl rfl ?_
      refine oW.goto (pc' := 44) K d1_35 (by decide) (by decide) ?_
      refine oW.goto (pc' := 6) K d1_44 (by decide) (by decide) ?_
      refine oW.iload (pc' := 8) K d1_6 rfl rfl ?_
      refine oW.iload (pc' := 10) K d1_8 rfl rfl ?_
      refine oW.icmp_ge (pc' := 47) (pc3 := 13) K d1_10 (by decide) (by decide) rfl (fun _ => ?_) (fun q => absurd q (by decide))
      refine oW.iload (pc' := 49) K d1_47 rfl rfl ?_
      exact oW.retI K rfl d1_49 (by decide) (by decide) ⟨_, rfl, _, rfl, by first | omega | (have oTs' := oTs; omega) | (simp only [Int32.reduceToInt, Int64.reduceToInt]; omega), rfl⟩
set_option maxRecDepth 65536 in
set_option maxHeartbeats 40000000 in
theorem own_fa4 {l : Launch} {Z : State} {a0 : Array Value} {h0 : Heap} (hw : ∀ d ∈ tables_1, d.before a0 Z = true) (a : Addr) (u s0 s1 s2 s3 s4 s5 : UInt64) (U Z0 Z1 Z2 Z3 Z4 Z5 : Int) (hu : oZv U u) (hz0 : oZv Z0 s0) (hz1 : oZv Z1 s1) (hz2 : oZv Z2 s2) (hz3 : oZv Z3 s3) (hz4 : oZv Z4 s4) (hz5 : oZv Z5 s5) (mono : Z0 ≤ Z1 ∧ Z1 ≤ Z2 ∧ Z2 ≤ Z3 ∧ Z3 ≤ Z4 ∧ Z4 ≤ Z5) :
    oCtr l Z h0 [] (⟨"com/example/careful_perplexity/carefulperplexity/RunningSums", "firstAbove", "([DID)I"⟩ : MethodName) prog_79_method_4_code 7 (some .int) ({ frames := 0, cells := 0, slots := 0, locals := 0 } : Room) #[(.ref a), (.int (4 : Int32)), (.double u)] [(a, .inl (.double, [(.double s0), (.double s1), (.double s2), (.double s3), (.double s4), (.double s5)]))] (oVal fun w d => ∃ r : Int32, w = .int r ∧ ((r.toInt = 0 ∧ U < Z0) ∨ (r.toInt = 1 ∧ ¬ U < Z0 ∧ U < Z1) ∨ (r.toInt = 2 ∧ ¬ U < Z0 ∧ ¬ U < Z1 ∧ U < Z2) ∨ (r.toInt = 3 ∧ ¬ U < Z0 ∧ ¬ U < Z1 ∧ ¬ U < Z2 ∧ U < Z3) ∨ (r.toInt = 4 ∧ ¬ U < Z0 ∧ ¬ U < Z1 ∧ ¬ U < Z2 ∧ ¬ U < Z3)) ∧ d = [(a, .inl (.double, [(.double s0), (.double s1), (.double s2), (.double s3), (.double s4), (.double s5)]))]) := by
  refine oCtr.of (Ls := #[.val (.ref a), .val (.int (4 : Int32)), .val (.double u), .second, .unset, .unset, .unset]) (plainFor_of_name (by first | (simp [plainName, overriddenIn]; done) | decide +kernel)) (fun m => by first | (simp [entryFrame, mkF, argsToLocals, Value.category]; done) | rfl) ?_
  intro p e s m below meth c K
  refine oW.iconst (v := (0 : Int32)) (pc' := 1) K d1_0 (by decide) rfl ?_
  refine oW.istore (Ls' := #[.val (.ref a), .val (.int (4 : Int32)), .val (.double u), .second, .val (.int (0 : Int32)), .unset, .unset]) (pc' := 3) K d1_1 rfl rfl ?_
  refine oW.iloadN (pc' := 4) K d1_3 rfl rfl ?_
  refine oW.istore (Ls' := #[.val (.ref a), .val (.int (4 : Int32)), .val (.double u), .second, .val (.int (0 : Int32)), .val (.int (4 : Int32)), .unset]) (pc' := 6) K d1_4 rfl rfl ?_
  refine oW.iload (pc' := 8) K d1_6 rfl rfl ?_
  refine oW.iload (pc' := 10) K d1_8 rfl rfl ?_
  refine oW.icmp_ge (pc' := 47) (pc3 := 13) K d1_10 (by decide) (by decide) rfl (fun q => absurd q (by decide)) (fun _ => ?_)
  refine oW.iload (pc' := 15) K d1_13 rfl rfl ?_
  refine oW.iload (pc' := 17) K d1_15 rfl rfl ?_
  refine oW.iadd (v := (4 : Int32)) (pc' := 18) K d1_17 (by decide) rfl ?_
  refine oW.iconst (v := (1 : Int32)) (pc' := 19) K d1_18 (by decide) rfl ?_
  refine oW.iushr (v := (2 : Int32)) (pc' := 20) K d1_19 (by decide) rfl ?_
  refine oW.istore (Ls' := #[.val (.ref a), .val (.int (4 : Int32)), .val (.double u), .second, .val (.int (0 : Int32)), .val (.int (4 : Int32)), .val (.int (2 : Int32))]) (pc' := 22) K d1_20 rfl rfl ?_
  refine oW.dloadN (pc' := 23) K d1_22 rfl rfl ?_
  refine oW.aloadN (pc' := 24) K d1_23 rfl rfl rfl ?_
  refine oW.iload (pc' := 26) K d1_24 rfl rfl ?_
  refine oW.daload (i := 0) (k := 2) (pc' := 27) K d1_26 rfl rfl (by decide) rfl rfl ?_
  obtain ⟨v27, ev27⟩ : ∃ z : Int32, z = cmpValue (FP.dcmp u s2) .g := ⟨_, rfl⟩
  refine oW.dcmp (pc' := 28) K d1_27 ev27 rfl ?_
  refine oW.if_ge (pc' := 38) (pc3 := 31) K d1_28 (by decide) (by decide) rfl (fun c28 => ?_) (fun c28 => ?_)
  · rw [(oCmpZ hu hz2 ev27).1] at c28
    refine oW.iload (pc' := 40) K d1_38 rfl rfl ?_
    refine oW.iconst (v := (1 : Int32)) (pc' := 41) K d1_40 (by decide) rfl ?_
    refine oW.iadd (v := (3 : Int32)) (pc' := 42) K d1_41 (by decide) rfl ?_
    refine oW.istore (Ls' := #[.val (.ref a), .val (.int (4 : Int32)), .val (.double u), .second, .val (.int (3 : Int32)), .val (.int (4 : Int32)), .val (.int (2 : Int32))]) (pc' := 44) K d1_42 rfl rfl ?_
    refine oW.goto (pc' := 6) K d1_44 (by decide) (by decide) ?_
    refine oW.iload (pc' := 8) K d1_6 rfl rfl ?_
    refine oW.iload (pc' := 10) K d1_8 rfl rfl ?_
    refine oW.icmp_ge (pc' := 47) (pc3 := 13) K d1_10 (by decide) (by decide) rfl (fun q => absurd q (by decide)) (fun _ => ?_)
    refine oW.iload (pc' := 15) K d1_13 rfl rfl ?_
    refine oW.iload (pc' := 17) K d1_15 rfl rfl ?_
    refine oW.iadd (v := (7 : Int32)) (pc' := 18) K d1_17 (by decide) rfl ?_
    refine oW.iconst (v := (1 : Int32)) (pc' := 19) K d1_18 (by decide) rfl ?_
    refine oW.iushr (v := (3 : Int32)) (pc' := 20) K d1_19 (by decide) rfl ?_
    refine oW.istore (Ls' := #[.val (.ref a), .val (.int (4 : Int32)), .val (.double u), .second, .val (.int (3 : Int32)), .val (.int (4 : Int32)), .val (.int (3 : Int32))]) (pc' := 22) K d1_20 rfl rfl ?_
    refine oW.dloadN (pc' := 23) K d1_22 rfl rfl ?_
    refine oW.aloadN (pc' := 24) K d1_23 rfl rfl rfl ?_
    refine oW.iload (pc' := 26) K d1_24 rfl rfl ?_
    refine oW.daload (i := 0) (k := 3) (pc' := 27) K d1_26 rfl rfl (by decide) rfl rfl ?_
    obtain ⟨v27_1, ev27_1⟩ : ∃ z : Int32, z = cmpValue (FP.dcmp u s3) .g := ⟨_, rfl⟩
    refine oW.dcmp (pc' := 28) K d1_27 ev27_1 rfl ?_
    refine oW.if_ge (pc' := 38) (pc3 := 31) K d1_28 (by decide) (by decide) rfl (fun c28_1 => ?_) (fun c28_1 => ?_)
    · rw [(oCmpZ hu hz3 ev27_1).1] at c28_1
      refine oW.iload (pc' := 40) K d1_38 rfl rfl ?_
      refine oW.iconst (v := (1 : Int32)) (pc' := 41) K d1_40 (by decide) rfl ?_
      refine oW.iadd (v := (4 : Int32)) (pc' := 42) K d1_41 (by decide) rfl ?_
      refine oW.istore (Ls' := #[.val (.ref a), .val (.int (4 : Int32)), .val (.double u), .second, .val (.int (4 : Int32)), .val (.int (4 : Int32)), .val (.int (3 : Int32))]) (pc' := 44) K d1_42 rfl rfl ?_
      refine oW.goto (pc' := 6) K d1_44 (by decide) (by decide) ?_
      refine oW.iload (pc' := 8) K d1_6 rfl rfl ?_
      refine oW.iload (pc' := 10) K d1_8 rfl rfl ?_
      refine oW.icmp_ge (pc' := 47) (pc3 := 13) K d1_10 (by decide) (by decide) rfl (fun _ => ?_) (fun q => absurd q (by decide))
      refine oW.iload (pc' := 49) K d1_47 rfl rfl ?_
      exact oW.retI K rfl d1_49 (by decide) (by decide) ⟨_, rfl, _, rfl, by first | omega | (have oTs' := oTs; omega) | (simp only [Int32.reduceToInt, Int64.reduceToInt]; omega), rfl⟩
    · rw [(oCmpZ hu hz3 ev27_1).1] at c28_1
      refine oW.iload (pc' := 33) K d1_31 rfl rfl ?_
      refine oW.istore (Ls' := #[.val (.ref a), .val (.int (4 : Int32)), .val (.double u), .second, .val (.int (3 : Int32)), .val (.int (3 : Int32)), .val (.int (3 : Int32))]) (pc' := 35) K d1_33 rfl rfl ?_
      refine oW.goto (pc' := 44) K d1_35 (by decide) (by decide) ?_
      refine oW.goto (pc' := 6) K d1_44 (by decide) (by decide) ?_
      refine oW.iload (pc' := 8) K d1_6 rfl rfl ?_
      refine oW.iload (pc' := 10) K d1_8 rfl rfl ?_
      refine oW.icmp_ge (pc' := 47) (pc3 := 13) K d1_10 (by decide) (by decide) rfl (fun _ => ?_) (fun q => absurd q (by decide))
      refine oW.iload (pc' := 49) K d1_47 rfl rfl ?_
      exact oW.retI K rfl d1_49 (by decide) (by decide) ⟨_, rfl, _, rfl, by first | omega | (have oTs' := oTs; omega) | (simp only [Int32.reduceToInt, Int64.reduceToInt]; omega), rfl⟩
  · rw [(oCmpZ hu hz2 ev27).1] at c28
    refine oW.iload (pc' := 33) K d1_31 rfl rfl ?_
    refine oW.istore (Ls' := #[.val (.ref a), .val (.int (4 : Int32)), .val (.double u), .second, .val (.int (0 : Int32)), .val (.int (2 : Int32)), .val (.int (2 : Int32))]) (pc' := 35) K d1_33 rfl rfl ?_
    refine oW.goto (pc' := 44) K d1_35 (by decide) (by decide) ?_
    refine oW.goto (pc' := 6) K d1_44 (by decide) (by decide) ?_
    refine oW.iload (pc' := 8) K d1_6 rfl rfl ?_
    refine oW.iload (pc' := 10) K d1_8 rfl rfl ?_
    refine oW.icmp_ge (pc' := 47) (pc3 := 13) K d1_10 (by decide) (by decide) rfl (fun q => absurd q (by decide)) (fun _ => ?_)
    refine oW.iload (pc' := 15) K d1_13 rfl rfl ?_
    refine oW.iload (pc' := 17) K d1_15 rfl rfl ?_
    refine oW.iadd (v := (2 : Int32)) (pc' := 18) K d1_17 (by decide) rfl ?_
    refine oW.iconst (v := (1 : Int32)) (pc' := 19) K d1_18 (by decide) rfl ?_
    refine oW.iushr (v := (1 : Int32)) (pc' := 20) K d1_19 (by decide) rfl ?_
    refine oW.istore (Ls' := #[.val (.ref a), .val (.int (4 : Int32)), .val (.double u), .second, .val (.int (0 : Int32)), .val (.int (2 : Int32)), .val (.int (1 : Int32))]) (pc' := 22) K d1_20 rfl rfl ?_
    refine oW.dloadN (pc' := 23) K d1_22 rfl rfl ?_
    refine oW.aloadN (pc' := 24) K d1_23 rfl rfl rfl ?_
    refine oW.iload (pc' := 26) K d1_24 rfl rfl ?_
    refine oW.daload (i := 0) (k := 1) (pc' := 27) K d1_26 rfl rfl (by decide) rfl rfl ?_
    obtain ⟨v27_1, ev27_1⟩ : ∃ z : Int32, z = cmpValue (FP.dcmp u s1) .g := ⟨_, rfl⟩
    refine oW.dcmp (pc' := 28) K d1_27 ev27_1 rfl ?_
    refine oW.if_ge (pc' := 38) (pc3 := 31) K d1_28 (by decide) (by decide) rfl (fun c28_1 => ?_) (fun c28_1 => ?_)
    · rw [(oCmpZ hu hz1 ev27_1).1] at c28_1
      refine oW.iload (pc' := 40) K d1_38 rfl rfl ?_
      refine oW.iconst (v := (1 : Int32)) (pc' := 41) K d1_40 (by decide) rfl ?_
      refine oW.iadd (v := (2 : Int32)) (pc' := 42) K d1_41 (by decide) rfl ?_
      refine oW.istore (Ls' := #[.val (.ref a), .val (.int (4 : Int32)), .val (.double u), .second, .val (.int (2 : Int32)), .val (.int (2 : Int32)), .val (.int (1 : Int32))]) (pc' := 44) K d1_42 rfl rfl ?_
      refine oW.goto (pc' := 6) K d1_44 (by decide) (by decide) ?_
      refine oW.iload (pc' := 8) K d1_6 rfl rfl ?_
      refine oW.iload (pc' := 10) K d1_8 rfl rfl ?_
      refine oW.icmp_ge (pc' := 47) (pc3 := 13) K d1_10 (by decide) (by decide) rfl (fun _ => ?_) (fun q => absurd q (by decide))
      refine oW.iload (pc' := 49) K d1_47 rfl rfl ?_
      exact oW.retI K rfl d1_49 (by decide) (by decide) ⟨_, rfl, _, rfl, by first | omega | (have oTs' := oTs; omega) | (simp only [Int32.reduceToInt, Int64.reduceToInt]; omega), rfl⟩
    · rw [(oCmpZ hu hz1 ev27_1).1] at c28_1
      refine oW.iload (pc' := 33) K d1_31 rfl rfl ?_
      refine oW.istore (Ls' := #[.val (.ref a), .val (.int (4 : Int32)), .val (.double u), .second, .val (.int (0 : Int32)), .val (.int (1 : Int32)), .val (.int (1 : Int32))]) (pc' := 35) K d1_33 rfl rfl ?_
      refine oW.goto (pc' := 44) K d1_35 (by decide) (by decide) ?_
      refine oW.goto (pc' := 6) K d1_44 (by decide) (by decide) ?_
      refine oW.iload (pc' := 8) K d1_6 rfl rfl ?_
      refine oW.iload (pc' := 10) K d1_8 rfl rfl ?_
      refine oW.icmp_ge (pc' := 47) (pc3 := 13) K d1_10 (by decide) (by decide) rfl (fun q => absurd q (by decide)) (fun _ => ?_)
      refine oW.iload (pc' := 15) K d1_13 rfl rfl ?_
      refine oW.iload (pc' := 17) K d1_15 rfl rfl ?_
      refine oW.iadd (v := (1 : Int32)) (pc' := 18) K d1_17 (by decide) rfl ?_
      refine oW.iconst (v := (1 : Int32)) (pc' := 19) K d1_18 (by decide) rfl ?_
      refine oW.iushr (v := (0 : Int32)) (pc' := 20) K d1_19 (by decide) rfl ?_
      refine oW.istore (Ls' := #[.val (.ref a), .val (.int (4 : Int32)), .val (.double u), .second, .val (.int (0 : Int32)), .val (.int (1 : Int32)), .val (.int (0 : Int32))]) (pc' := 22) K d1_20 rfl rfl ?_
      refine oW.dloadN (pc' := 23) K d1_22 rfl rfl ?_
      refine oW.aloadN (pc' := 24) K d1_23 rfl rfl rfl ?_
      refine oW.iload (pc' := 26) K d1_24 rfl rfl ?_
      refine oW.daload (i := 0) (k := 0) (pc' := 27) K d1_26 rfl rfl (by decide) rfl rfl ?_
      obtain ⟨v27_2, ev27_2⟩ : ∃ z : Int32, z = cmpValue (FP.dcmp u s0) .g := ⟨_, rfl⟩
      refine oW.dcmp (pc' := 28) K d1_27 ev27_2 rfl ?_
      refine oW.if_ge (pc' := 38) (pc3 := 31) K d1_28 (by decide) (by decide) rfl (fun c28_2 => ?_) (fun c28_2 => ?_)
      · rw [(oCmpZ hu hz0 ev27_2).1] at c28_2
        refine oW.iload (pc' := 40) K d1_38 rfl rfl ?_
        refine oW.iconst (v := (1 : Int32)) (pc' := 41) K d1_40 (by decide) rfl ?_
        refine oW.iadd (v := (1 : Int32)) (pc' := 42) K d1_41 (by decide) rfl ?_
        refine oW.istore (Ls' := #[.val (.ref a), .val (.int (4 : Int32)), .val (.double u), .second, .val (.int (1 : Int32)), .val (.int (1 : Int32)), .val (.int (0 : Int32))]) (pc' := 44) K d1_42 rfl rfl ?_
        refine oW.goto (pc' := 6) K d1_44 (by decide) (by decide) ?_
        refine oW.iload (pc' := 8) K d1_6 rfl rfl ?_
        refine oW.iload (pc' := 10) K d1_8 rfl rfl ?_
        refine oW.icmp_ge (pc' := 47) (pc3 := 13) K d1_10 (by decide) (by decide) rfl (fun _ => ?_) (fun q => absurd q (by decide))
        refine oW.iload (pc' := 49) K d1_47 rfl rfl ?_
        exact oW.retI K rfl d1_49 (by decide) (by decide) ⟨_, rfl, _, rfl, by first | omega | (have oTs' := oTs; omega) | (simp only [Int32.reduceToInt, Int64.reduceToInt]; omega), rfl⟩
      · rw [(oCmpZ hu hz0 ev27_2).1] at c28_2
        refine oW.iload (pc' := 33) K d1_31 rfl rfl ?_
        refine oW.istore (Ls' := #[.val (.ref a), .val (.int (4 : Int32)), .val (.double u), .second, .val (.int (0 : Int32)), .val (.int (0 : Int32)), .val (.int (0 : Int32))]) (pc' := 35) K d1_33 rfl rfl ?_
        refine oW.goto (pc' := 44) K d1_35 (by decide) (by decide) ?_
        refine oW.goto (pc' := 6) K d1_44 (by decide) (by decide) ?_
        refine oW.iload (pc' := 8) K d1_6 rfl rfl ?_
        refine oW.iload (pc' := 10) K d1_8 rfl rfl ?_
        refine oW.icmp_ge (pc' := 47) (pc3 := 13) K d1_10 (by decide) (by decide) rfl (fun _ => ?_) (fun q => absurd q (by decide))
        refine oW.iload (pc' := 49) K d1_47 rfl rfl ?_
        exact oW.retI K rfl d1_49 (by decide) (by decide) ⟨_, rfl, _, rfl, by first | omega | (have oTs' := oTs; omega) | (simp only [Int32.reduceToInt, Int64.reduceToInt]; omega), rfl⟩
set_option maxRecDepth 65536 in
set_option maxHeartbeats 40000000 in
theorem own_fa5 {l : Launch} {Z : State} {a0 : Array Value} {h0 : Heap} (hw : ∀ d ∈ tables_1, d.before a0 Z = true) (a : Addr) (u s0 s1 s2 s3 s4 s5 : UInt64) (U Z0 Z1 Z2 Z3 Z4 Z5 : Int) (hu : oZv U u) (hz0 : oZv Z0 s0) (hz1 : oZv Z1 s1) (hz2 : oZv Z2 s2) (hz3 : oZv Z3 s3) (hz4 : oZv Z4 s4) (hz5 : oZv Z5 s5) (mono : Z0 ≤ Z1 ∧ Z1 ≤ Z2 ∧ Z2 ≤ Z3 ∧ Z3 ≤ Z4 ∧ Z4 ≤ Z5) :
    oCtr l Z h0 [] (⟨"com/example/careful_perplexity/carefulperplexity/RunningSums", "firstAbove", "([DID)I"⟩ : MethodName) prog_79_method_4_code 7 (some .int) ({ frames := 0, cells := 0, slots := 0, locals := 0 } : Room) #[(.ref a), (.int (5 : Int32)), (.double u)] [(a, .inl (.double, [(.double s0), (.double s1), (.double s2), (.double s3), (.double s4), (.double s5)]))] (oVal fun w d => ∃ r : Int32, w = .int r ∧ ((r.toInt = 0 ∧ U < Z0) ∨ (r.toInt = 1 ∧ ¬ U < Z0 ∧ U < Z1) ∨ (r.toInt = 2 ∧ ¬ U < Z0 ∧ ¬ U < Z1 ∧ U < Z2) ∨ (r.toInt = 3 ∧ ¬ U < Z0 ∧ ¬ U < Z1 ∧ ¬ U < Z2 ∧ U < Z3) ∨ (r.toInt = 4 ∧ ¬ U < Z0 ∧ ¬ U < Z1 ∧ ¬ U < Z2 ∧ ¬ U < Z3 ∧ U < Z4) ∨ (r.toInt = 5 ∧ ¬ U < Z0 ∧ ¬ U < Z1 ∧ ¬ U < Z2 ∧ ¬ U < Z3 ∧ ¬ U < Z4)) ∧ d = [(a, .inl (.double, [(.double s0), (.double s1), (.double s2), (.double s3), (.double s4), (.double s5)]))]) := by
  refine oCtr.of (Ls := #[.val (.ref a), .val (.int (5 : Int32)), .val (.double u), .second, .unset, .unset, .unset]) (plainFor_of_name (by first | (simp [plainName, overriddenIn]; done) | decide +kernel)) (fun m => by first | (simp [entryFrame, mkF, argsToLocals, Value.category]; done) | rfl) ?_
  intro p e s m below meth c K
  refine oW.iconst (v := (0 : Int32)) (pc' := 1) K d1_0 (by decide) rfl ?_
  refine oW.istore (Ls' := #[.val (.ref a), .val (.int (5 : Int32)), .val (.double u), .second, .val (.int (0 : Int32)), .unset, .unset]) (pc' := 3) K d1_1 rfl rfl ?_
  refine oW.iloadN (pc' := 4) K d1_3 rfl rfl ?_
  refine oW.istore (Ls' := #[.val (.ref a), .val (.int (5 : Int32)), .val (.double u), .second, .val (.int (0 : Int32)), .val (.int (5 : Int32)), .unset]) (pc' := 6) K d1_4 rfl rfl ?_
  refine oW.iload (pc' := 8) K d1_6 rfl rfl ?_
  refine oW.iload (pc' := 10) K d1_8 rfl rfl ?_
  refine oW.icmp_ge (pc' := 47) (pc3 := 13) K d1_10 (by decide) (by decide) rfl (fun q => absurd q (by decide)) (fun _ => ?_)
  refine oW.iload (pc' := 15) K d1_13 rfl rfl ?_
  refine oW.iload (pc' := 17) K d1_15 rfl rfl ?_
  refine oW.iadd (v := (5 : Int32)) (pc' := 18) K d1_17 (by decide) rfl ?_
  refine oW.iconst (v := (1 : Int32)) (pc' := 19) K d1_18 (by decide) rfl ?_
  refine oW.iushr (v := (2 : Int32)) (pc' := 20) K d1_19 (by decide) rfl ?_
  refine oW.istore (Ls' := #[.val (.ref a), .val (.int (5 : Int32)), .val (.double u), .second, .val (.int (0 : Int32)), .val (.int (5 : Int32)), .val (.int (2 : Int32))]) (pc' := 22) K d1_20 rfl rfl ?_
  refine oW.dloadN (pc' := 23) K d1_22 rfl rfl ?_
  refine oW.aloadN (pc' := 24) K d1_23 rfl rfl rfl ?_
  refine oW.iload (pc' := 26) K d1_24 rfl rfl ?_
  refine oW.daload (i := 0) (k := 2) (pc' := 27) K d1_26 rfl rfl (by decide) rfl rfl ?_
  obtain ⟨v27, ev27⟩ : ∃ z : Int32, z = cmpValue (FP.dcmp u s2) .g := ⟨_, rfl⟩
  refine oW.dcmp (pc' := 28) K d1_27 ev27 rfl ?_
  refine oW.if_ge (pc' := 38) (pc3 := 31) K d1_28 (by decide) (by decide) rfl (fun c28 => ?_) (fun c28 => ?_)
  · rw [(oCmpZ hu hz2 ev27).1] at c28
    refine oW.iload (pc' := 40) K d1_38 rfl rfl ?_
    refine oW.iconst (v := (1 : Int32)) (pc' := 41) K d1_40 (by decide) rfl ?_
    refine oW.iadd (v := (3 : Int32)) (pc' := 42) K d1_41 (by decide) rfl ?_
    refine oW.istore (Ls' := #[.val (.ref a), .val (.int (5 : Int32)), .val (.double u), .second, .val (.int (3 : Int32)), .val (.int (5 : Int32)), .val (.int (2 : Int32))]) (pc' := 44) K d1_42 rfl rfl ?_
    refine oW.goto (pc' := 6) K d1_44 (by decide) (by decide) ?_
    refine oW.iload (pc' := 8) K d1_6 rfl rfl ?_
    refine oW.iload (pc' := 10) K d1_8 rfl rfl ?_
    refine oW.icmp_ge (pc' := 47) (pc3 := 13) K d1_10 (by decide) (by decide) rfl (fun q => absurd q (by decide)) (fun _ => ?_)
    refine oW.iload (pc' := 15) K d1_13 rfl rfl ?_
    refine oW.iload (pc' := 17) K d1_15 rfl rfl ?_
    refine oW.iadd (v := (8 : Int32)) (pc' := 18) K d1_17 (by decide) rfl ?_
    refine oW.iconst (v := (1 : Int32)) (pc' := 19) K d1_18 (by decide) rfl ?_
    refine oW.iushr (v := (4 : Int32)) (pc' := 20) K d1_19 (by decide) rfl ?_
    refine oW.istore (Ls' := #[.val (.ref a), .val (.int (5 : Int32)), .val (.double u), .second, .val (.int (3 : Int32)), .val (.int (5 : Int32)), .val (.int (4 : Int32))]) (pc' := 22) K d1_20 rfl rfl ?_
    refine oW.dloadN (pc' := 23) K d1_22 rfl rfl ?_
    refine oW.aloadN (pc' := 24) K d1_23 rfl rfl rfl ?_
    refine oW.iload (pc' := 26) K d1_24 rfl rfl ?_
    refine oW.daload (i := 0) (k := 4) (pc' := 27) K d1_26 rfl rfl (by decide) rfl rfl ?_
    obtain ⟨v27_1, ev27_1⟩ : ∃ z : Int32, z = cmpValue (FP.dcmp u s4) .g := ⟨_, rfl⟩
    refine oW.dcmp (pc' := 28) K d1_27 ev27_1 rfl ?_
    refine oW.if_ge (pc' := 38) (pc3 := 31) K d1_28 (by decide) (by decide) rfl (fun c28_1 => ?_) (fun c28_1 => ?_)
    · rw [(oCmpZ hu hz4 ev27_1).1] at c28_1
      refine oW.iload (pc' := 40) K d1_38 rfl rfl ?_
      refine oW.iconst (v := (1 : Int32)) (pc' := 41) K d1_40 (by decide) rfl ?_
      refine oW.iadd (v := (5 : Int32)) (pc' := 42) K d1_41 (by decide) rfl ?_
      refine oW.istore (Ls' := #[.val (.ref a), .val (.int (5 : Int32)), .val (.double u), .second, .val (.int (5 : Int32)), .val (.int (5 : Int32)), .val (.int (4 : Int32))]) (pc' := 44) K d1_42 rfl rfl ?_
      refine oW.goto (pc' := 6) K d1_44 (by decide) (by decide) ?_
      refine oW.iload (pc' := 8) K d1_6 rfl rfl ?_
      refine oW.iload (pc' := 10) K d1_8 rfl rfl ?_
      refine oW.icmp_ge (pc' := 47) (pc3 := 13) K d1_10 (by decide) (by decide) rfl (fun _ => ?_) (fun q => absurd q (by decide))
      refine oW.iload (pc' := 49) K d1_47 rfl rfl ?_
      exact oW.retI K rfl d1_49 (by decide) (by decide) ⟨_, rfl, _, rfl, by first | omega | (have oTs' := oTs; omega) | (simp only [Int32.reduceToInt, Int64.reduceToInt]; omega), rfl⟩
    · rw [(oCmpZ hu hz4 ev27_1).1] at c28_1
      refine oW.iload (pc' := 33) K d1_31 rfl rfl ?_
      refine oW.istore (Ls' := #[.val (.ref a), .val (.int (5 : Int32)), .val (.double u), .second, .val (.int (3 : Int32)), .val (.int (4 : Int32)), .val (.int (4 : Int32))]) (pc' := 35) K d1_33 rfl rfl ?_
      refine oW.goto (pc' := 44) K d1_35 (by decide) (by decide) ?_
      refine oW.goto (pc' := 6) K d1_44 (by decide) (by decide) ?_
      refine oW.iload (pc' := 8) K d1_6 rfl rfl ?_
      refine oW.iload (pc' := 10) K d1_8 rfl rfl ?_
      refine oW.icmp_ge (pc' := 47) (pc3 := 13) K d1_10 (by decide) (by decide) rfl (fun q => absurd q (by decide)) (fun _ => ?_)
      refine oW.iload (pc' := 15) K d1_13 rfl rfl ?_
      refine oW.iload (pc' := 17) K d1_15 rfl rfl ?_
      refine oW.iadd (v := (7 : Int32)) (pc' := 18) K d1_17 (by decide) rfl ?_
      refine oW.iconst (v := (1 : Int32)) (pc' := 19) K d1_18 (by decide) rfl ?_
      refine oW.iushr (v := (3 : Int32)) (pc' := 20) K d1_19 (by decide) rfl ?_
      refine oW.istore (Ls' := #[.val (.ref a), .val (.int (5 : Int32)), .val (.double u), .second, .val (.int (3 : Int32)), .val (.int (4 : Int32)), .val (.int (3 : Int32))]) (pc' := 22) K d1_20 rfl rfl ?_
      refine oW.dloadN (pc' := 23) K d1_22 rfl rfl ?_
      refine oW.aloadN (pc' := 24) K d1_23 rfl rfl rfl ?_
      refine oW.iload (pc' := 26) K d1_24 rfl rfl ?_
      refine oW.daload (i := 0) (k := 3) (pc' := 27) K d1_26 rfl rfl (by decide) rfl rfl ?_
      obtain ⟨v27_2, ev27_2⟩ : ∃ z : Int32, z = cmpValue (FP.dcmp u s3) .g := ⟨_, rfl⟩
      refine oW.dcmp (pc' := 28) K d1_27 ev27_2 rfl ?_
      refine oW.if_ge (pc' := 38) (pc3 := 31) K d1_28 (by decide) (by decide) rfl (fun c28_2 => ?_) (fun c28_2 => ?_)
      · rw [(oCmpZ hu hz3 ev27_2).1] at c28_2
        refine oW.iload (pc' := 40) K d1_38 rfl rfl ?_
        refine oW.iconst (v := (1 : Int32)) (pc' := 41) K d1_40 (by decide) rfl ?_
        refine oW.iadd (v := (4 : Int32)) (pc' := 42) K d1_41 (by decide) rfl ?_
        refine oW.istore (Ls' := #[.val (.ref a), .val (.int (5 : Int32)), .val (.double u), .second, .val (.int (4 : Int32)), .val (.int (4 : Int32)), .val (.int (3 : Int32))]) (pc' := 44) K d1_42 rfl rfl ?_
        refine oW.goto (pc' := 6) K d1_44 (by decide) (by decide) ?_
        refine oW.iload (pc' := 8) K d1_6 rfl rfl ?_
        refine oW.iload (pc' := 10) K d1_8 rfl rfl ?_
        refine oW.icmp_ge (pc' := 47) (pc3 := 13) K d1_10 (by decide) (by decide) rfl (fun _ => ?_) (fun q => absurd q (by decide))
        refine oW.iload (pc' := 49) K d1_47 rfl rfl ?_
        exact oW.retI K rfl d1_49 (by decide) (by decide) ⟨_, rfl, _, rfl, by first | omega | (have oTs' := oTs; omega) | (simp only [Int32.reduceToInt, Int64.reduceToInt]; omega), rfl⟩
      · rw [(oCmpZ hu hz3 ev27_2).1] at c28_2
        refine oW.iload (pc' := 33) K d1_31 rfl rfl ?_
        refine oW.istore (Ls' := #[.val (.ref a), .val (.int (5 : Int32)), .val (.double u), .second, .val (.int (3 : Int32)), .val (.int (3 : Int32)), .val (.int (3 : Int32))]) (pc' := 35) K d1_33 rfl rfl ?_
        refine oW.goto (pc' := 44) K d1_35 (by decide) (by decide) ?_
        refine oW.goto (pc' := 6) K d1_44 (by decide) (by decide) ?_
        refine oW.iload (pc' := 8) K d1_6 rfl rfl ?_
        refine oW.iload (pc' := 10) K d1_8 rfl rfl ?_
        refine oW.icmp_ge (pc' := 47) (pc3 := 13) K d1_10 (by decide) (by decide) rfl (fun _ => ?_) (fun q => absurd q (by decide))
        refine oW.iload (pc' := 49) K d1_47 rfl rfl ?_
        exact oW.retI K rfl d1_49 (by decide) (by decide) ⟨_, rfl, _, rfl, by first | omega | (have oTs' := oTs; omega) | (simp only [Int32.reduceToInt, Int64.reduceToInt]; omega), rfl⟩
  · rw [(oCmpZ hu hz2 ev27).1] at c28
    refine oW.iload (pc' := 33) K d1_31 rfl rfl ?_
    refine oW.istore (Ls' := #[.val (.ref a), .val (.int (5 : Int32)), .val (.double u), .second, .val (.int (0 : Int32)), .val (.int (2 : Int32)), .val (.int (2 : Int32))]) (pc' := 35) K d1_33 rfl rfl ?_
    refine oW.goto (pc' := 44) K d1_35 (by decide) (by decide) ?_
    refine oW.goto (pc' := 6) K d1_44 (by decide) (by decide) ?_
    refine oW.iload (pc' := 8) K d1_6 rfl rfl ?_
    refine oW.iload (pc' := 10) K d1_8 rfl rfl ?_
    refine oW.icmp_ge (pc' := 47) (pc3 := 13) K d1_10 (by decide) (by decide) rfl (fun q => absurd q (by decide)) (fun _ => ?_)
    refine oW.iload (pc' := 15) K d1_13 rfl rfl ?_
    refine oW.iload (pc' := 17) K d1_15 rfl rfl ?_
    refine oW.iadd (v := (2 : Int32)) (pc' := 18) K d1_17 (by decide) rfl ?_
    refine oW.iconst (v := (1 : Int32)) (pc' := 19) K d1_18 (by decide) rfl ?_
    refine oW.iushr (v := (1 : Int32)) (pc' := 20) K d1_19 (by decide) rfl ?_
    refine oW.istore (Ls' := #[.val (.ref a), .val (.int (5 : Int32)), .val (.double u), .second, .val (.int (0 : Int32)), .val (.int (2 : Int32)), .val (.int (1 : Int32))]) (pc' := 22) K d1_20 rfl rfl ?_
    refine oW.dloadN (pc' := 23) K d1_22 rfl rfl ?_
    refine oW.aloadN (pc' := 24) K d1_23 rfl rfl rfl ?_
    refine oW.iload (pc' := 26) K d1_24 rfl rfl ?_
    refine oW.daload (i := 0) (k := 1) (pc' := 27) K d1_26 rfl rfl (by decide) rfl rfl ?_
    obtain ⟨v27_1, ev27_1⟩ : ∃ z : Int32, z = cmpValue (FP.dcmp u s1) .g := ⟨_, rfl⟩
    refine oW.dcmp (pc' := 28) K d1_27 ev27_1 rfl ?_
    refine oW.if_ge (pc' := 38) (pc3 := 31) K d1_28 (by decide) (by decide) rfl (fun c28_1 => ?_) (fun c28_1 => ?_)
    · rw [(oCmpZ hu hz1 ev27_1).1] at c28_1
      refine oW.iload (pc' := 40) K d1_38 rfl rfl ?_
      refine oW.iconst (v := (1 : Int32)) (pc' := 41) K d1_40 (by decide) rfl ?_
      refine oW.iadd (v := (2 : Int32)) (pc' := 42) K d1_41 (by decide) rfl ?_
      refine oW.istore (Ls' := #[.val (.ref a), .val (.int (5 : Int32)), .val (.double u), .second, .val (.int (2 : Int32)), .val (.int (2 : Int32)), .val (.int (1 : Int32))]) (pc' := 44) K d1_42 rfl rfl ?_
      refine oW.goto (pc' := 6) K d1_44 (by decide) (by decide) ?_
      refine oW.iload (pc' := 8) K d1_6 rfl rfl ?_
      refine oW.iload (pc' := 10) K d1_8 rfl rfl ?_
      refine oW.icmp_ge (pc' := 47) (pc3 := 13) K d1_10 (by decide) (by decide) rfl (fun _ => ?_) (fun q => absurd q (by decide))
      refine oW.iload (pc' := 49) K d1_47 rfl rfl ?_
      exact oW.retI K rfl d1_49 (by decide) (by decide) ⟨_, rfl, _, rfl, by first | omega | (have oTs' := oTs; omega) | (simp only [Int32.reduceToInt, Int64.reduceToInt]; omega), rfl⟩
    · rw [(oCmpZ hu hz1 ev27_1).1] at c28_1
      refine oW.iload (pc' := 33) K d1_31 rfl rfl ?_
      refine oW.istore (Ls' := #[.val (.ref a), .val (.int (5 : Int32)), .val (.double u), .second, .val (.int (0 : Int32)), .val (.int (1 : Int32)), .val (.int (1 : Int32))]) (pc' := 35) K d1_33 rfl rfl ?_
      refine oW.goto (pc' := 44) K d1_35 (by decide) (by decide) ?_
      refine oW.goto (pc' := 6) K d1_44 (by decide) (by decide) ?_
      refine oW.iload (pc' := 8) K d1_6 rfl rfl ?_
      refine oW.iload (pc' := 10) K d1_8 rfl rfl ?_
      refine oW.icmp_ge (pc' := 47) (pc3 := 13) K d1_10 (by decide) (by decide) rfl (fun q => absurd q (by decide)) (fun _ => ?_)
      refine oW.iload (pc' := 15) K d1_13 rfl rfl ?_
      refine oW.iload (pc' := 17) K d1_15 rfl rfl ?_
      refine oW.iadd (v := (1 : Int32)) (pc' := 18) K d1_17 (by decide) rfl ?_
      refine oW.iconst (v := (1 : Int32)) (pc' := 19) K d1_18 (by decide) rfl ?_
      refine oW.iushr (v := (0 : Int32)) (pc' := 20) K d1_19 (by decide) rfl ?_
      refine oW.istore (Ls' := #[.val (.ref a), .val (.int (5 : Int32)), .val (.double u), .second, .val (.int (0 : Int32)), .val (.int (1 : Int32)), .val (.int (0 : Int32))]) (pc' := 22) K d1_20 rfl rfl ?_
      refine oW.dloadN (pc' := 23) K d1_22 rfl rfl ?_
      refine oW.aloadN (pc' := 24) K d1_23 rfl rfl rfl ?_
      refine oW.iload (pc' := 26) K d1_24 rfl rfl ?_
      refine oW.daload (i := 0) (k := 0) (pc' := 27) K d1_26 rfl rfl (by decide) rfl rfl ?_
      obtain ⟨v27_2, ev27_2⟩ : ∃ z : Int32, z = cmpValue (FP.dcmp u s0) .g := ⟨_, rfl⟩
      refine oW.dcmp (pc' := 28) K d1_27 ev27_2 rfl ?_
      refine oW.if_ge (pc' := 38) (pc3 := 31) K d1_28 (by decide) (by decide) rfl (fun c28_2 => ?_) (fun c28_2 => ?_)
      · rw [(oCmpZ hu hz0 ev27_2).1] at c28_2
        refine oW.iload (pc' := 40) K d1_38 rfl rfl ?_
        refine oW.iconst (v := (1 : Int32)) (pc' := 41) K d1_40 (by decide) rfl ?_
        refine oW.iadd (v := (1 : Int32)) (pc' := 42) K d1_41 (by decide) rfl ?_
        refine oW.istore (Ls' := #[.val (.ref a), .val (.int (5 : Int32)), .val (.double u), .second, .val (.int (1 : Int32)), .val (.int (1 : Int32)), .val (.int (0 : Int32))]) (pc' := 44) K d1_42 rfl rfl ?_
        refine oW.goto (pc' := 6) K d1_44 (by decide) (by decide) ?_
        refine oW.iload (pc' := 8) K d1_6 rfl rfl ?_
        refine oW.iload (pc' := 10) K d1_8 rfl rfl ?_
        refine oW.icmp_ge (pc' := 47) (pc3 := 13) K d1_10 (by decide) (by decide) rfl (fun _ => ?_) (fun q => absurd q (by decide))
        refine oW.iload (pc' := 49) K d1_47 rfl rfl ?_
        exact oW.retI K rfl d1_49 (by decide) (by decide) ⟨_, rfl, _, rfl, by first | omega | (have oTs' := oTs; omega) | (simp only [Int32.reduceToInt, Int64.reduceToInt]; omega), rfl⟩
      · rw [(oCmpZ hu hz0 ev27_2).1] at c28_2
        refine oW.iload (pc' := 33) K d1_31 rfl rfl ?_
        refine oW.istore (Ls' := #[.val (.ref a), .val (.int (5 : Int32)), .val (.double u), .second, .val (.int (0 : Int32)), .val (.int (0 : Int32)), .val (.int (0 : Int32))]) (pc' := 35) K d1_33 rfl rfl ?_
        refine oW.goto (pc' := 44) K d1_35 (by decide) (by decide) ?_
        refine oW.goto (pc' := 6) K d1_44 (by decide) (by decide) ?_
        refine oW.iload (pc' := 8) K d1_6 rfl rfl ?_
        refine oW.iload (pc' := 10) K d1_8 rfl rfl ?_
        refine oW.icmp_ge (pc' := 47) (pc3 := 13) K d1_10 (by decide) (by decide) rfl (fun _ => ?_) (fun q => absurd q (by decide))
        refine oW.iload (pc' := 49) K d1_47 rfl rfl ?_
        exact oW.retI K rfl d1_49 (by decide) (by decide) ⟨_, rfl, _, rfl, by first | omega | (have oTs' := oTs; omega) | (simp only [Int32.reduceToInt, Int64.reduceToInt]; omega), rfl⟩
theorem pd_0 : parseMethodDescriptor "([DID)I" = some ⟨[(.array .double), .int, .double], some .int⟩ := by decide +kernel
set_option maxRecDepth 65536 in
set_option maxHeartbeats 40000000 in
theorem own_law {l : Launch} {Z : State} {a0 : Array Value} {h0 : Heap} (hw : ∀ d ∈ tables_1, d.before a0 Z = true) (p0 : Int32) (p1 : Int32) (p2 : Int32) :
    oCtr l Z h0 tables_1 x code maxLocals ret room_1 #[(.int p0), (.int p1), (.int p2)] [] (oVal fun w _ => w = .int 1) := by
  refine oCtr.of (Ls := #[.val (.int p0), .val (.int p1), .val (.int p2), .unset, .unset, .unset, .unset, .unset, .unset, .unset]) (plainFor_of_name (by first | (simp [plainName, overriddenIn]; done) | decide +kernel)) (fun m => by first | (simp [entryFrame, mkF, argsToLocals, Value.category, maxLocals]; done) | rfl) ?_
  intro p e s m below meth c K
  refine oW.bipush (v := (6 : Int32)) (pc' := 2) K at_0 (by decide) rfl ?_
  refine oW.newarr (n := 6) (cells' := 1) (slots' := 6) (dsf := fun z => [(z, .inl (.double, [(.double (0 : UInt64)), (.double (0 : UInt64)), (.double (0 : UInt64)), (.double (0 : UInt64)), (.double (0 : UInt64)), (.double (0 : UInt64))]))]) (pc' := 4) K (hw _ (List.mem_of_getElem? (i := 0) rfl)) at_2 rfl (by decide) (by decide) (by decide) (by decide) rfl rfl (fun _ => rfl) rfl ?_
  intro a2 ha2
  refine oW.astoreN (Ls' := #[.val (.int p0), .val (.int p1), .val (.int p2), .val (.ref a2), .unset, .unset, .unset, .unset, .unset, .unset]) (pc' := 5) K at_4 rfl rfl rfl ?_
  refine oW.iconst (v := (0 : Int32)) (pc' := 6) K at_5 (by decide) rfl ?_
  refine oW.istore (Ls' := #[.val (.int p0), .val (.int p1), .val (.int p2), .val (.ref a2), .val (.int (0 : Int32)), .unset, .unset, .unset, .unset, .unset]) (pc' := 8) K at_6 rfl rfl ?_
  refine oW.iload (pc' := 10) K at_8 rfl rfl ?_
  refine oW.iloadN (pc' := 11) K at_10 rfl rfl ?_
  refine oW.bipush (v := (7 : Int32)) (pc' := 13) K at_11 (by decide) rfl ?_
  obtain ⟨v13, ev13⟩ : ∃ z : Int32, z = p0 &&& (7 : Int32) := ⟨_, rfl⟩
  refine oW.iand (pc' := 14) K at_13 ev13 rfl ?_
  have b13 := oMaskR 7 (by decide) ev13
  obtain ⟨v14, ev14⟩ : ∃ z : Int32, z = (0 : Int32) + v13 := ⟨_, rfl⟩
  refine oW.iadd (pc' := 15) K at_14 ev14 rfl ?_
  have tv14 := oIadd ev14 (by first | omega | (have oTs' := oTs; omega) | (simp only [Int32.reduceToInt, Int64.reduceToInt]; omega))
  try simp only [Int32.reduceToInt, Int64.reduceToInt] at tv14
  refine oW.istore (Ls' := #[.val (.int p0), .val (.int p1), .val (.int p2), .val (.ref a2), .val (.int v14), .unset, .unset, .unset, .unset, .unset]) (pc' := 17) K at_15 rfl rfl ?_
  refine oW.aloadN (pc' := 18) K at_17 rfl rfl rfl ?_
  refine oW.iconst (v := (0 : Int32)) (pc' := 19) K at_18 (by decide) rfl ?_
  refine oW.iload (pc' := 21) K at_19 rfl rfl ?_
  obtain ⟨v21, ev21⟩ : ∃ z : UInt64, z = FP.i2d v14 := ⟨_, rfl⟩
  have dv21 : FP.Core.DInt (v14).toInt v21 := oI2D ev21
  refine oW.i2d (pc' := 22) K at_21 ev21 rfl ?_
  refine oW.dastore (i := 0) (k := 0) (ds' := [(a2, .inl (.double, [(.double v21), (.double (0 : UInt64)), (.double (0 : UInt64)), (.double (0 : UInt64)), (.double (0 : UInt64)), (.double (0 : UInt64))]))]) (pc' := 23) K at_22 rfl rfl (by decide) (Nat.lt_of_sub_eq_succ rfl) rfl rfl ?_
  refine oW.iload (pc' := 25) K at_23 rfl rfl ?_
  refine oW.iloadN (pc' := 26) K at_25 rfl rfl ?_
  refine oW.iconst (v := (3 : Int32)) (pc' := 27) K at_26 (by decide) rfl ?_
  obtain ⟨v27, ev27⟩ : ∃ z : Int32, z = XT.ushr p0 (3 : Int32) := ⟨_, rfl⟩
  refine oW.iushr (pc' := 28) K at_27 ev27 rfl ?_
  refine oW.bipush (v := (7 : Int32)) (pc' := 30) K at_28 (by decide) rfl ?_
  obtain ⟨v30, ev30⟩ : ∃ z : Int32, z = v27 &&& (7 : Int32) := ⟨_, rfl⟩
  refine oW.iand (pc' := 31) K at_30 ev30 rfl ?_
  have b30 := oMaskR 7 (by decide) ev30
  obtain ⟨v31, ev31⟩ : ∃ z : Int32, z = v14 + v30 := ⟨_, rfl⟩
  refine oW.iadd (pc' := 32) K at_31 ev31 rfl ?_
  have tv31 := oIadd ev31 (by first | omega | (have oTs' := oTs; omega) | (simp only [Int32.reduceToInt, Int64.reduceToInt]; omega))
  try simp only [Int32.reduceToInt, Int64.reduceToInt] at tv31
  refine oW.istore (Ls' := #[.val (.int p0), .val (.int p1), .val (.int p2), .val (.ref a2), .val (.int v31), .unset, .unset, .unset, .unset, .unset]) (pc' := 34) K at_32 rfl rfl ?_
  refine oW.aloadN (pc' := 35) K at_34 rfl rfl rfl ?_
  refine oW.iconst (v := (1 : Int32)) (pc' := 36) K at_35 (by decide) rfl ?_
  refine oW.iload (pc' := 38) K at_36 rfl rfl ?_
  obtain ⟨v38, ev38⟩ : ∃ z : UInt64, z = FP.i2d v31 := ⟨_, rfl⟩
  have dv38 : FP.Core.DInt (v31).toInt v38 := oI2D ev38
  refine oW.i2d (pc' := 39) K at_38 ev38 rfl ?_
  refine oW.dastore (i := 0) (k := 1) (ds' := [(a2, .inl (.double, [(.double v21), (.double v38), (.double (0 : UInt64)), (.double (0 : UInt64)), (.double (0 : UInt64)), (.double (0 : UInt64))]))]) (pc' := 40) K at_39 rfl rfl (by decide) (Nat.lt_of_sub_eq_succ rfl) rfl rfl ?_
  refine oW.iload (pc' := 42) K at_40 rfl rfl ?_
  refine oW.iloadN (pc' := 43) K at_42 rfl rfl ?_
  refine oW.bipush (v := (6 : Int32)) (pc' := 45) K at_43 (by decide) rfl ?_
  obtain ⟨v45, ev45⟩ : ∃ z : Int32, z = XT.ushr p0 (6 : Int32) := ⟨_, rfl⟩
  refine oW.iushr (pc' := 46) K at_45 ev45 rfl ?_
  refine oW.bipush (v := (7 : Int32)) (pc' := 48) K at_46 (by decide) rfl ?_
  obtain ⟨v48, ev48⟩ : ∃ z : Int32, z = v45 &&& (7 : Int32) := ⟨_, rfl⟩
  refine oW.iand (pc' := 49) K at_48 ev48 rfl ?_
  have b48 := oMaskR 7 (by decide) ev48
  obtain ⟨v49, ev49⟩ : ∃ z : Int32, z = v31 + v48 := ⟨_, rfl⟩
  refine oW.iadd (pc' := 50) K at_49 ev49 rfl ?_
  have tv49 := oIadd ev49 (by first | omega | (have oTs' := oTs; omega) | (simp only [Int32.reduceToInt, Int64.reduceToInt]; omega))
  try simp only [Int32.reduceToInt, Int64.reduceToInt] at tv49
  refine oW.istore (Ls' := #[.val (.int p0), .val (.int p1), .val (.int p2), .val (.ref a2), .val (.int v49), .unset, .unset, .unset, .unset, .unset]) (pc' := 52) K at_50 rfl rfl ?_
  refine oW.aloadN (pc' := 53) K at_52 rfl rfl rfl ?_
  refine oW.iconst (v := (2 : Int32)) (pc' := 54) K at_53 (by decide) rfl ?_
  refine oW.iload (pc' := 56) K at_54 rfl rfl ?_
  obtain ⟨v56, ev56⟩ : ∃ z : UInt64, z = FP.i2d v49 := ⟨_, rfl⟩
  have dv56 : FP.Core.DInt (v49).toInt v56 := oI2D ev56
  refine oW.i2d (pc' := 57) K at_56 ev56 rfl ?_
  refine oW.dastore (i := 0) (k := 2) (ds' := [(a2, .inl (.double, [(.double v21), (.double v38), (.double v56), (.double (0 : UInt64)), (.double (0 : UInt64)), (.double (0 : UInt64))]))]) (pc' := 58) K at_57 rfl rfl (by decide) (Nat.lt_of_sub_eq_succ rfl) rfl rfl ?_
  refine oW.iload (pc' := 60) K at_58 rfl rfl ?_
  refine oW.iloadN (pc' := 61) K at_60 rfl rfl ?_
  refine oW.bipush (v := (9 : Int32)) (pc' := 63) K at_61 (by decide) rfl ?_
  obtain ⟨v63, ev63⟩ : ∃ z : Int32, z = XT.ushr p0 (9 : Int32) := ⟨_, rfl⟩
  refine oW.iushr (pc' := 64) K at_63 ev63 rfl ?_
  refine oW.bipush (v := (7 : Int32)) (pc' := 66) K at_64 (by decide) rfl ?_
  obtain ⟨v66, ev66⟩ : ∃ z : Int32, z = v63 &&& (7 : Int32) := ⟨_, rfl⟩
  refine oW.iand (pc' := 67) K at_66 ev66 rfl ?_
  have b66 := oMaskR 7 (by decide) ev66
  obtain ⟨v67, ev67⟩ : ∃ z : Int32, z = v49 + v66 := ⟨_, rfl⟩
  refine oW.iadd (pc' := 68) K at_67 ev67 rfl ?_
  have tv67 := oIadd ev67 (by first | omega | (have oTs' := oTs; omega) | (simp only [Int32.reduceToInt, Int64.reduceToInt]; omega))
  try simp only [Int32.reduceToInt, Int64.reduceToInt] at tv67
  refine oW.istore (Ls' := #[.val (.int p0), .val (.int p1), .val (.int p2), .val (.ref a2), .val (.int v67), .unset, .unset, .unset, .unset, .unset]) (pc' := 70) K at_68 rfl rfl ?_
  refine oW.aloadN (pc' := 71) K at_70 rfl rfl rfl ?_
  refine oW.iconst (v := (3 : Int32)) (pc' := 72) K at_71 (by decide) rfl ?_
  refine oW.iload (pc' := 74) K at_72 rfl rfl ?_
  obtain ⟨v74, ev74⟩ : ∃ z : UInt64, z = FP.i2d v67 := ⟨_, rfl⟩
  have dv74 : FP.Core.DInt (v67).toInt v74 := oI2D ev74
  refine oW.i2d (pc' := 75) K at_74 ev74 rfl ?_
  refine oW.dastore (i := 0) (k := 3) (ds' := [(a2, .inl (.double, [(.double v21), (.double v38), (.double v56), (.double v74), (.double (0 : UInt64)), (.double (0 : UInt64))]))]) (pc' := 76) K at_75 rfl rfl (by decide) (Nat.lt_of_sub_eq_succ rfl) rfl rfl ?_
  refine oW.iload (pc' := 78) K at_76 rfl rfl ?_
  refine oW.iloadN (pc' := 79) K at_78 rfl rfl ?_
  refine oW.bipush (v := (12 : Int32)) (pc' := 81) K at_79 (by decide) rfl ?_
  obtain ⟨v81, ev81⟩ : ∃ z : Int32, z = XT.ushr p0 (12 : Int32) := ⟨_, rfl⟩
  refine oW.iushr (pc' := 82) K at_81 ev81 rfl ?_
  refine oW.bipush (v := (7 : Int32)) (pc' := 84) K at_82 (by decide) rfl ?_
  obtain ⟨v84, ev84⟩ : ∃ z : Int32, z = v81 &&& (7 : Int32) := ⟨_, rfl⟩
  refine oW.iand (pc' := 85) K at_84 ev84 rfl ?_
  have b84 := oMaskR 7 (by decide) ev84
  obtain ⟨v85, ev85⟩ : ∃ z : Int32, z = v67 + v84 := ⟨_, rfl⟩
  refine oW.iadd (pc' := 86) K at_85 ev85 rfl ?_
  have tv85 := oIadd ev85 (by first | omega | (have oTs' := oTs; omega) | (simp only [Int32.reduceToInt, Int64.reduceToInt]; omega))
  try simp only [Int32.reduceToInt, Int64.reduceToInt] at tv85
  refine oW.istore (Ls' := #[.val (.int p0), .val (.int p1), .val (.int p2), .val (.ref a2), .val (.int v85), .unset, .unset, .unset, .unset, .unset]) (pc' := 88) K at_86 rfl rfl ?_
  refine oW.aloadN (pc' := 89) K at_88 rfl rfl rfl ?_
  refine oW.iconst (v := (4 : Int32)) (pc' := 90) K at_89 (by decide) rfl ?_
  refine oW.iload (pc' := 92) K at_90 rfl rfl ?_
  obtain ⟨v92, ev92⟩ : ∃ z : UInt64, z = FP.i2d v85 := ⟨_, rfl⟩
  have dv92 : FP.Core.DInt (v85).toInt v92 := oI2D ev92
  refine oW.i2d (pc' := 93) K at_92 ev92 rfl ?_
  refine oW.dastore (i := 0) (k := 4) (ds' := [(a2, .inl (.double, [(.double v21), (.double v38), (.double v56), (.double v74), (.double v92), (.double (0 : UInt64))]))]) (pc' := 94) K at_93 rfl rfl (by decide) (Nat.lt_of_sub_eq_succ rfl) rfl rfl ?_
  refine oW.iload (pc' := 96) K at_94 rfl rfl ?_
  refine oW.iloadN (pc' := 97) K at_96 rfl rfl ?_
  refine oW.bipush (v := (15 : Int32)) (pc' := 99) K at_97 (by decide) rfl ?_
  obtain ⟨v99, ev99⟩ : ∃ z : Int32, z = XT.ushr p0 (15 : Int32) := ⟨_, rfl⟩
  refine oW.iushr (pc' := 100) K at_99 ev99 rfl ?_
  refine oW.bipush (v := (7 : Int32)) (pc' := 102) K at_100 (by decide) rfl ?_
  obtain ⟨v102, ev102⟩ : ∃ z : Int32, z = v99 &&& (7 : Int32) := ⟨_, rfl⟩
  refine oW.iand (pc' := 103) K at_102 ev102 rfl ?_
  have b102 := oMaskR 7 (by decide) ev102
  obtain ⟨v103, ev103⟩ : ∃ z : Int32, z = v85 + v102 := ⟨_, rfl⟩
  refine oW.iadd (pc' := 104) K at_103 ev103 rfl ?_
  have tv103 := oIadd ev103 (by first | omega | (have oTs' := oTs; omega) | (simp only [Int32.reduceToInt, Int64.reduceToInt]; omega))
  try simp only [Int32.reduceToInt, Int64.reduceToInt] at tv103
  refine oW.istore (Ls' := #[.val (.int p0), .val (.int p1), .val (.int p2), .val (.ref a2), .val (.int v103), .unset, .unset, .unset, .unset, .unset]) (pc' := 106) K at_104 rfl rfl ?_
  refine oW.aloadN (pc' := 107) K at_106 rfl rfl rfl ?_
  refine oW.iconst (v := (5 : Int32)) (pc' := 108) K at_107 (by decide) rfl ?_
  refine oW.iload (pc' := 110) K at_108 rfl rfl ?_
  obtain ⟨v110, ev110⟩ : ∃ z : UInt64, z = FP.i2d v103 := ⟨_, rfl⟩
  have dv110 : FP.Core.DInt (v103).toInt v110 := oI2D ev110
  refine oW.i2d (pc' := 111) K at_110 ev110 rfl ?_
  refine oW.dastore (i := 0) (k := 5) (ds' := [(a2, .inl (.double, [(.double v21), (.double v38), (.double v56), (.double v74), (.double v92), (.double v110)]))]) (pc' := 112) K at_111 rfl rfl (by decide) (Nat.lt_of_sub_eq_succ rfl) rfl rfl ?_
  refine oW.iloadN (pc' := 113) K at_112 rfl rfl ?_
  refine oW.ldcI (pc' := 115) K (hw _ (List.mem_of_getElem? (i := 1) rfl)) at_113 rfl ?_
  obtain ⟨v115, ev115⟩ : ∃ z : Int32, z = p1 &&& (2147483647 : Int32) := ⟨_, rfl⟩
  refine oW.iand (pc' := 116) K at_115 ev115 rfl ?_
  have b115 := oMaskR 2147483647 (by decide) ev115
  refine oW.bipush (v := (6 : Int32)) (pc' := 118) K at_116 (by decide) rfl ?_
  obtain ⟨v118, ev118⟩ : ∃ z : Int32, z = v115 % (6 : Int32) := ⟨_, rfl⟩
  refine oW.irem (pc' := 119) K at_118 (by decide) ev118 rfl ?_
  have b118 := oRem 6 ev118 (by decide) b115.1
  refine oW.istore (Ls' := #[.val (.int p0), .val (.int p1), .val (.int p2), .val (.ref a2), .val (.int v103), .val (.int v118), .unset, .unset, .unset, .unset]) (pc' := 121) K at_119 rfl rfl ?_
  have hv118 : v118 = 0 ∨ v118 = 1 ∨ v118 = 2 ∨ v118 = 3 ∨ v118 = 4 ∨ v118 = 5 := by simp only [oEq32, Int32.reduceToInt]; omega
  rcases hv118 with hv118 | hv118 | hv118 | hv118 | hv118 | hv118
  · subst hv118
    refine oW.iloadN (pc' := 122) K at_121 rfl rfl ?_
    refine oW.bipush (v := (100 : Int32)) (pc' := 124) K at_122 (by decide) rfl ?_
    obtain ⟨v124, ev124⟩ : ∃ z : Int32, z = p2 % (100 : Int32) := ⟨_, rfl⟩
    refine oW.irem (pc' := 125) K at_124 (by decide) ev124 rfl ?_
    obtain ⟨v125, ev125⟩ : ∃ z : UInt64, z = FP.i2d v124 := ⟨_, rfl⟩
    have dv125 : FP.Core.DInt (v124).toInt v125 := oI2D ev125
    refine oW.i2d (pc' := 126) K at_125 ev125 rfl ?_
    refine oW.ldc2D (pc' := 129) K (hw _ (List.mem_of_getElem? (i := 2) rfl)) at_126 rfl ?_
    obtain ⟨v129, ev129⟩ : ∃ z : UInt64, z = FP.dmul v125 (4602678819172646912 : UInt64) := ⟨_, rfl⟩
    have mv129 : oMag 1057 v129 := oMMul (oMI2D ev125) (by unfold oMag Jvm.Free.Fl.Mag64; decide : oMag 1023 _) ev129 (by decide)
    have zv129 := oZv.of (oMNN mv129 (by decide))
    refine oW.dmul (pc' := 130) K at_129 ev129 (oMNN mv129 (by decide)) rfl ?_
    refine oW.dstore (Ls' := #[.val (.int p0), .val (.int p1), .val (.int p2), .val (.ref a2), .val (.int v103), .val (.int (0 : Int32)), .val (.double v129), .second, .unset, .unset]) (pc' := 132) K at_130 rfl rfl ?_
    refine oW.aloadN (pc' := 133) K at_132 rfl rfl rfl ?_
    refine oW.iload (pc' := 135) K at_133 rfl rfl ?_
    refine oW.dload (pc' := 137) K at_135 rfl rfl ?_
    obtain ⟨U, eU⟩ : ∃ z, z = FP.Core.zval FP.Core.b64 (FP.Core.val64 v129) := ⟨_, rfl⟩
    rw [← eU] at zv129
    have zs0 := oZv.int dv21
    obtain ⟨Z0, eZ0⟩ : ∃ z, z = (v14.toInt) * (FP.Core.one64 : Int) := ⟨_, rfl⟩
    rw [← eZ0] at zs0
    have zs1 := oZv.int dv38
    obtain ⟨Z1, eZ1⟩ : ∃ z, z = (v31.toInt) * (FP.Core.one64 : Int) := ⟨_, rfl⟩
    rw [← eZ1] at zs1
    have zs2 := oZv.int dv56
    obtain ⟨Z2, eZ2⟩ : ∃ z, z = (v49.toInt) * (FP.Core.one64 : Int) := ⟨_, rfl⟩
    rw [← eZ2] at zs2
    have zs3 := oZv.int dv74
    obtain ⟨Z3, eZ3⟩ : ∃ z, z = (v67.toInt) * (FP.Core.one64 : Int) := ⟨_, rfl⟩
    rw [← eZ3] at zs3
    have zs4 := oZv.int dv92
    obtain ⟨Z4, eZ4⟩ : ∃ z, z = (v85.toInt) * (FP.Core.one64 : Int) := ⟨_, rfl⟩
    rw [← eZ4] at zs4
    have zs5 := oZv.int dv110
    obtain ⟨Z5, eZ5⟩ : ∃ z, z = (v103.toInt) * (FP.Core.one64 : Int) := ⟨_, rfl⟩
    rw [← eZ5] at zs5
    have mo0 : Z0 ≤ Z1 := by rw [eZ0, eZ1]; exact oZmono (by omega)
    have mo1 : Z1 ≤ Z2 := by rw [eZ1, eZ2]; exact oZmono (by omega)
    have mo2 : Z2 ≤ Z3 := by rw [eZ2, eZ3]; exact oZmono (by omega)
    have mo3 : Z3 ≤ Z4 := by rw [eZ3, eZ4]; exact oZmono (by omega)
    have mo4 : Z4 ≤ Z5 := by rw [eZ4, eZ5]; exact oZmono (by omega)
    refine oW.callS (argsL := [(.ref a2), (.int (0 : Int32)), (.double v129)]) (S := []) (rm := ({ frames := 0, cells := 0, slots := 0, locals := 0 } : Room)) (W := 0) (cells' := 1) (slots' := 6) (pc' := 140) K (hw _ (List.mem_of_getElem? (i := 3) rfl)) (hw _ (List.mem_of_getElem? (i := 4) rfl)) (hw _ (List.mem_of_getElem? (i := 5) rfl)) (hw _ (List.mem_of_getElem? (i := 6) rfl)) (by decide) (own_fa0 hw a2 v129 v21 v38 v56 v74 v92 v110 U Z0 Z1 Z2 Z3 Z4 Z5 zv129 zs0 zs1 zs2 zs3 zs4 zs5 ⟨mo0, mo1, mo2, mo3, mo4⟩) (lenOf pd_0 rfl) at_137 rfl rfl (Nat.le_of_eq rfl) (by decide) (by decide) (by decide) (by decide) rfl rfl rfl ?_
    rintro _ _ ⟨r, rfl, hr, rfl⟩
    refine oW.istore (Ls' := #[.val (.int p0), .val (.int p1), .val (.int p2), .val (.ref a2), .val (.int v103), .val (.int (0 : Int32)), .val (.double v129), .second, .val (.int r), .unset]) (pc' := 142) K at_140 rfl rfl ?_
    refine oW.iload (pc' := 144) K at_142 rfl rfl ?_
    refine oW.istore (Ls' := #[.val (.int p0), .val (.int p1), .val (.int p2), .val (.ref a2), .val (.int v103), .val (.int (0 : Int32)), .val (.double v129), .second, .val (.int r), .val (.int (0 : Int32))]) (pc' := 146) K at_144 rfl rfl ?_
    refine oW.iconst (v := (4 : Int32)) (pc' := 147) K at_146 (by decide) rfl ?_
    refine oW.iload (pc' := 149) K at_147 rfl rfl ?_
    refine oW.icmp_gt (pc' := 164) (pc3 := 152) K at_149 (by decide) (by decide) rfl (fun _ => ?_) (fun q => absurd q (by decide))
    refine oW.iconst (v := (3 : Int32)) (pc' := 165) K at_164 (by decide) rfl ?_
    refine oW.iload (pc' := 167) K at_165 rfl rfl ?_
    refine oW.icmp_gt (pc' := 182) (pc3 := 170) K at_167 (by decide) (by decide) rfl (fun _ => ?_) (fun q => absurd q (by decide))
    refine oW.iconst (v := (2 : Int32)) (pc' := 183) K at_182 (by decide) rfl ?_
    refine oW.iload (pc' := 185) K at_183 rfl rfl ?_
    refine oW.icmp_gt (pc' := 200) (pc3 := 188) K at_185 (by decide) (by decide) rfl (fun _ => ?_) (fun q => absurd q (by decide))
    refine oW.iconst (v := (1 : Int32)) (pc' := 201) K at_200 (by decide) rfl ?_
    refine oW.iload (pc' := 203) K at_201 rfl rfl ?_
    refine oW.icmp_gt (pc' := 218) (pc3 := 206) K at_203 (by decide) (by decide) rfl (fun _ => ?_) (fun q => absurd q (by decide))
    refine oW.join (F := fun z : Int32 => (U < Z0 ∧ z.toInt = 0) ∨ (¬ U < Z0 ∧ z.toInt = 0)) (pcj := 230) (Lf := fun z => #[.val (.int p0), .val (.int p1), .val (.int p2), .val (.ref a2), .val (.int v103), .val (.int (0 : Int32)), .val (.double v129), .second, .val (.int r), .val (.int z)]) (Sf := fun z => []) (dsf := fun z => [(a2, .inl (.double, [(.double v21), (.double v38), (.double v56), (.double v74), (.double v92), (.double v110)]))]) ?_ ?_
    · intro J
      refine oW.dload (pc' := 220) K at_218 rfl rfl ?_
      refine oW.aloadN (pc' := 221) K at_220 rfl rfl rfl ?_
      refine oW.iconst (v := (0 : Int32)) (pc' := 222) K at_221 (by decide) rfl ?_
      refine oW.daload (i := 0) (k := 0) (pc' := 223) K at_222 rfl rfl (by decide) rfl rfl ?_
      obtain ⟨v223, ev223⟩ : ∃ z : Int32, z = cmpValue (FP.dcmp v129 v21) .g := ⟨_, rfl⟩
      refine oW.dcmp (pc' := 224) K at_223 ev223 rfl ?_
      refine oW.if_ge (pc' := 230) (pc3 := 227) K at_224 (by decide) (by decide) rfl (fun c224 => ?_) (fun c224 => ?_)
      · rw [(oCmpZ zv129 zs0 ev223).1] at c224
        exact J (0 : Int32) (by first | omega | (have oTs' := oTs; omega) | (simp only [Int32.reduceToInt, Int64.reduceToInt]; omega))
      · rw [(oCmpZ zv129 zs0 ev223).1] at c224
        refine oW.iconst (v := (0 : Int32)) (pc' := 228) K at_227 (by decide) rfl ?_
        refine oW.istore (Ls' := #[.val (.int p0), .val (.int p1), .val (.int p2), .val (.ref a2), .val (.int v103), .val (.int (0 : Int32)), .val (.double v129), .second, .val (.int r), .val (.int (0 : Int32))]) (pc' := 230) K at_228 rfl rfl ?_
        exact J (0 : Int32) (by first | omega | (have oTs' := oTs; omega) | (simp only [Int32.reduceToInt, Int64.reduceToInt]; omega))
    intro k0 hk0
    refine oW.iload (pc' := 232) K at_230 rfl rfl ?_
    refine oW.iload (pc' := 234) K at_232 rfl rfl ?_
    refine oW.icmp_ne (pc' := 241) (pc3 := 237) K at_234 (by decide) (by decide) rfl (fun q => absurd (oEq32.mpr (by first | omega | (have oTs' := oTs; omega) | (simp only [Int32.reduceToInt, Int64.reduceToInt]; omega))) q) (fun c234 => ?_)
    refine oW.iconst (v := (1 : Int32)) (pc' := 238) K at_237 (by decide) rfl ?_
    refine oW.goto (pc' := 242) K at_238 (by decide) (by decide) ?_
    exact oW.retB K rfl at_242 (by decide) (by decide) ⟨_, rfl, rfl⟩
  · subst hv118
    refine oW.iloadN (pc' := 122) K at_121 rfl rfl ?_
    refine oW.bipush (v := (100 : Int32)) (pc' := 124) K at_122 (by decide) rfl ?_
    obtain ⟨v124, ev124⟩ : ∃ z : Int32, z = p2 % (100 : Int32) := ⟨_, rfl⟩
    refine oW.irem (pc' := 125) K at_124 (by decide) ev124 rfl ?_
    obtain ⟨v125, ev125⟩ : ∃ z : UInt64, z = FP.i2d v124 := ⟨_, rfl⟩
    have dv125 : FP.Core.DInt (v124).toInt v125 := oI2D ev125
    refine oW.i2d (pc' := 126) K at_125 ev125 rfl ?_
    refine oW.ldc2D (pc' := 129) K (hw _ (List.mem_of_getElem? (i := 2) rfl)) at_126 rfl ?_
    obtain ⟨v129, ev129⟩ : ∃ z : UInt64, z = FP.dmul v125 (4602678819172646912 : UInt64) := ⟨_, rfl⟩
    have mv129 : oMag 1057 v129 := oMMul (oMI2D ev125) (by unfold oMag Jvm.Free.Fl.Mag64; decide : oMag 1023 _) ev129 (by decide)
    have zv129 := oZv.of (oMNN mv129 (by decide))
    refine oW.dmul (pc' := 130) K at_129 ev129 (oMNN mv129 (by decide)) rfl ?_
    refine oW.dstore (Ls' := #[.val (.int p0), .val (.int p1), .val (.int p2), .val (.ref a2), .val (.int v103), .val (.int (1 : Int32)), .val (.double v129), .second, .unset, .unset]) (pc' := 132) K at_130 rfl rfl ?_
    refine oW.aloadN (pc' := 133) K at_132 rfl rfl rfl ?_
    refine oW.iload (pc' := 135) K at_133 rfl rfl ?_
    refine oW.dload (pc' := 137) K at_135 rfl rfl ?_
    obtain ⟨U, eU⟩ : ∃ z, z = FP.Core.zval FP.Core.b64 (FP.Core.val64 v129) := ⟨_, rfl⟩
    rw [← eU] at zv129
    have zs0 := oZv.int dv21
    obtain ⟨Z0, eZ0⟩ : ∃ z, z = (v14.toInt) * (FP.Core.one64 : Int) := ⟨_, rfl⟩
    rw [← eZ0] at zs0
    have zs1 := oZv.int dv38
    obtain ⟨Z1, eZ1⟩ : ∃ z, z = (v31.toInt) * (FP.Core.one64 : Int) := ⟨_, rfl⟩
    rw [← eZ1] at zs1
    have zs2 := oZv.int dv56
    obtain ⟨Z2, eZ2⟩ : ∃ z, z = (v49.toInt) * (FP.Core.one64 : Int) := ⟨_, rfl⟩
    rw [← eZ2] at zs2
    have zs3 := oZv.int dv74
    obtain ⟨Z3, eZ3⟩ : ∃ z, z = (v67.toInt) * (FP.Core.one64 : Int) := ⟨_, rfl⟩
    rw [← eZ3] at zs3
    have zs4 := oZv.int dv92
    obtain ⟨Z4, eZ4⟩ : ∃ z, z = (v85.toInt) * (FP.Core.one64 : Int) := ⟨_, rfl⟩
    rw [← eZ4] at zs4
    have zs5 := oZv.int dv110
    obtain ⟨Z5, eZ5⟩ : ∃ z, z = (v103.toInt) * (FP.Core.one64 : Int) := ⟨_, rfl⟩
    rw [← eZ5] at zs5
    have mo0 : Z0 ≤ Z1 := by rw [eZ0, eZ1]; exact oZmono (by omega)
    have mo1 : Z1 ≤ Z2 := by rw [eZ1, eZ2]; exact oZmono (by omega)
    have mo2 : Z2 ≤ Z3 := by rw [eZ2, eZ3]; exact oZmono (by omega)
    have mo3 : Z3 ≤ Z4 := by rw [eZ3, eZ4]; exact oZmono (by omega)
    have mo4 : Z4 ≤ Z5 := by rw [eZ4, eZ5]; exact oZmono (by omega)
    refine oW.callS (argsL := [(.ref a2), (.int (1 : Int32)), (.double v129)]) (S := []) (rm := ({ frames := 0, cells := 0, slots := 0, locals := 0 } : Room)) (W := 0) (cells' := 1) (slots' := 6) (pc' := 140) K (hw _ (List.mem_of_getElem? (i := 3) rfl)) (hw _ (List.mem_of_getElem? (i := 4) rfl)) (hw _ (List.mem_of_getElem? (i := 5) rfl)) (hw _ (List.mem_of_getElem? (i := 6) rfl)) (by decide) (own_fa1 hw a2 v129 v21 v38 v56 v74 v92 v110 U Z0 Z1 Z2 Z3 Z4 Z5 zv129 zs0 zs1 zs2 zs3 zs4 zs5 ⟨mo0, mo1, mo2, mo3, mo4⟩) (lenOf pd_0 rfl) at_137 rfl rfl (Nat.le_of_eq rfl) (by decide) (by decide) (by decide) (by decide) rfl rfl rfl ?_
    rintro _ _ ⟨r, rfl, hr, rfl⟩
    refine oW.istore (Ls' := #[.val (.int p0), .val (.int p1), .val (.int p2), .val (.ref a2), .val (.int v103), .val (.int (1 : Int32)), .val (.double v129), .second, .val (.int r), .unset]) (pc' := 142) K at_140 rfl rfl ?_
    refine oW.iload (pc' := 144) K at_142 rfl rfl ?_
    refine oW.istore (Ls' := #[.val (.int p0), .val (.int p1), .val (.int p2), .val (.ref a2), .val (.int v103), .val (.int (1 : Int32)), .val (.double v129), .second, .val (.int r), .val (.int (1 : Int32))]) (pc' := 146) K at_144 rfl rfl ?_
    refine oW.iconst (v := (4 : Int32)) (pc' := 147) K at_146 (by decide) rfl ?_
    refine oW.iload (pc' := 149) K at_147 rfl rfl ?_
    refine oW.icmp_gt (pc' := 164) (pc3 := 152) K at_149 (by decide) (by decide) rfl (fun _ => ?_) (fun q => absurd q (by decide))
    refine oW.iconst (v := (3 : Int32)) (pc' := 165) K at_164 (by decide) rfl ?_
    refine oW.iload (pc' := 167) K at_165 rfl rfl ?_
    refine oW.icmp_gt (pc' := 182) (pc3 := 170) K at_167 (by decide) (by decide) rfl (fun _ => ?_) (fun q => absurd q (by decide))
    refine oW.iconst (v := (2 : Int32)) (pc' := 183) K at_182 (by decide) rfl ?_
    refine oW.iload (pc' := 185) K at_183 rfl rfl ?_
    refine oW.icmp_gt (pc' := 200) (pc3 := 188) K at_185 (by decide) (by decide) rfl (fun _ => ?_) (fun q => absurd q (by decide))
    refine oW.iconst (v := (1 : Int32)) (pc' := 201) K at_200 (by decide) rfl ?_
    refine oW.iload (pc' := 203) K at_201 rfl rfl ?_
    refine oW.icmp_gt (pc' := 218) (pc3 := 206) K at_203 (by decide) (by decide) rfl (fun q => absurd q (by decide)) (fun _ => ?_)
    refine oW.join (F := fun z : Int32 => (U < Z1 ∧ z.toInt = 1) ∨ (¬ U < Z1 ∧ z.toInt = 1)) (pcj := 218) (Lf := fun z => #[.val (.int p0), .val (.int p1), .val (.int p2), .val (.ref a2), .val (.int v103), .val (.int (1 : Int32)), .val (.double v129), .second, .val (.int r), .val (.int z)]) (Sf := fun z => []) (dsf := fun z => [(a2, .inl (.double, [(.double v21), (.double v38), (.double v56), (.double v74), (.double v92), (.double v110)]))]) ?_ ?_
    · intro J
      refine oW.dload (pc' := 208) K at_206 rfl rfl ?_
      refine oW.aloadN (pc' := 209) K at_208 rfl rfl rfl ?_
      refine oW.iconst (v := (1 : Int32)) (pc' := 210) K at_209 (by decide) rfl ?_
      refine oW.daload (i := 0) (k := 1) (pc' := 211) K at_210 rfl rfl (by decide) rfl rfl ?_
      obtain ⟨v211, ev211⟩ : ∃ z : Int32, z = cmpValue (FP.dcmp v129 v38) .g := ⟨_, rfl⟩
      refine oW.dcmp (pc' := 212) K at_211 ev211 rfl ?_
      refine oW.if_ge (pc' := 218) (pc3 := 215) K at_212 (by decide) (by decide) rfl (fun c212 => ?_) (fun c212 => ?_)
      · rw [(oCmpZ zv129 zs1 ev211).1] at c212
        exact J (1 : Int32) (by first | omega | (have oTs' := oTs; omega) | (simp only [Int32.reduceToInt, Int64.reduceToInt]; omega))
      · rw [(oCmpZ zv129 zs1 ev211).1] at c212
        refine oW.iconst (v := (1 : Int32)) (pc' := 216) K at_215 (by decide) rfl ?_
        refine oW.istore (Ls' := #[.val (.int p0), .val (.int p1), .val (.int p2), .val (.ref a2), .val (.int v103), .val (.int (1 : Int32)), .val (.double v129), .second, .val (.int r), .val (.int (1 : Int32))]) (pc' := 218) K at_216 rfl rfl ?_
        exact J (1 : Int32) (by first | omega | (have oTs' := oTs; omega) | (simp only [Int32.reduceToInt, Int64.reduceToInt]; omega))
    intro k1 hk1
    refine oW.join (F := fun z : Int32 => (U < Z0 ∧ z.toInt = 0) ∨ (¬ U < Z0 ∧ z.toInt = k1.toInt)) (pcj := 230) (Lf := fun z => #[.val (.int p0), .val (.int p1), .val (.int p2), .val (.ref a2), .val (.int v103), .val (.int (1 : Int32)), .val (.double v129), .second, .val (.int r), .val (.int z)]) (Sf := fun z => []) (dsf := fun z => [(a2, .inl (.double, [(.double v21), (.double v38), (.double v56), (.double v74), (.double v92), (.double v110)]))]) ?_ ?_
    · intro J
      refine oW.dload (pc' := 220) K at_218 rfl rfl ?_
      refine oW.aloadN (pc' := 221) K at_220 rfl rfl rfl ?_
      refine oW.iconst (v := (0 : Int32)) (pc' := 222) K at_221 (by decide) rfl ?_
      refine oW.daload (i := 0) (k := 0) (pc' := 223) K at_222 rfl rfl (by decide) rfl rfl ?_
      obtain ⟨v223, ev223⟩ : ∃ z : Int32, z = cmpValue (FP.dcmp v129 v21) .g := ⟨_, rfl⟩
      refine oW.dcmp (pc' := 224) K at_223 ev223 rfl ?_
      refine oW.if_ge (pc' := 230) (pc3 := 227) K at_224 (by decide) (by decide) rfl (fun c224 => ?_) (fun c224 => ?_)
      · rw [(oCmpZ zv129 zs0 ev223).1] at c224
        exact J k1 (by first | omega | (have oTs' := oTs; omega) | (simp only [Int32.reduceToInt, Int64.reduceToInt]; omega))
      · rw [(oCmpZ zv129 zs0 ev223).1] at c224
        refine oW.iconst (v := (0 : Int32)) (pc' := 228) K at_227 (by decide) rfl ?_
        refine oW.istore (Ls' := #[.val (.int p0), .val (.int p1), .val (.int p2), .val (.ref a2), .val (.int v103), .val (.int (1 : Int32)), .val (.double v129), .second, .val (.int r), .val (.int (0 : Int32))]) (pc' := 230) K at_228 rfl rfl ?_
        exact J (0 : Int32) (by first | omega | (have oTs' := oTs; omega) | (simp only [Int32.reduceToInt, Int64.reduceToInt]; omega))
    intro k0 hk0
    refine oW.iload (pc' := 232) K at_230 rfl rfl ?_
    refine oW.iload (pc' := 234) K at_232 rfl rfl ?_
    refine oW.icmp_ne (pc' := 241) (pc3 := 237) K at_234 (by decide) (by decide) rfl (fun q => absurd (oEq32.mpr (by first | omega | (have oTs' := oTs; omega) | (simp only [Int32.reduceToInt, Int64.reduceToInt]; omega))) q) (fun c234 => ?_)
    refine oW.iconst (v := (1 : Int32)) (pc' := 238) K at_237 (by decide) rfl ?_
    refine oW.goto (pc' := 242) K at_238 (by decide) (by decide) ?_
    exact oW.retB K rfl at_242 (by decide) (by decide) ⟨_, rfl, rfl⟩
  · subst hv118
    refine oW.iloadN (pc' := 122) K at_121 rfl rfl ?_
    refine oW.bipush (v := (100 : Int32)) (pc' := 124) K at_122 (by decide) rfl ?_
    obtain ⟨v124, ev124⟩ : ∃ z : Int32, z = p2 % (100 : Int32) := ⟨_, rfl⟩
    refine oW.irem (pc' := 125) K at_124 (by decide) ev124 rfl ?_
    obtain ⟨v125, ev125⟩ : ∃ z : UInt64, z = FP.i2d v124 := ⟨_, rfl⟩
    have dv125 : FP.Core.DInt (v124).toInt v125 := oI2D ev125
    refine oW.i2d (pc' := 126) K at_125 ev125 rfl ?_
    refine oW.ldc2D (pc' := 129) K (hw _ (List.mem_of_getElem? (i := 2) rfl)) at_126 rfl ?_
    obtain ⟨v129, ev129⟩ : ∃ z : UInt64, z = FP.dmul v125 (4602678819172646912 : UInt64) := ⟨_, rfl⟩
    have mv129 : oMag 1057 v129 := oMMul (oMI2D ev125) (by unfold oMag Jvm.Free.Fl.Mag64; decide : oMag 1023 _) ev129 (by decide)
    have zv129 := oZv.of (oMNN mv129 (by decide))
    refine oW.dmul (pc' := 130) K at_129 ev129 (oMNN mv129 (by decide)) rfl ?_
    refine oW.dstore (Ls' := #[.val (.int p0), .val (.int p1), .val (.int p2), .val (.ref a2), .val (.int v103), .val (.int (2 : Int32)), .val (.double v129), .second, .unset, .unset]) (pc' := 132) K at_130 rfl rfl ?_
    refine oW.aloadN (pc' := 133) K at_132 rfl rfl rfl ?_
    refine oW.iload (pc' := 135) K at_133 rfl rfl ?_
    refine oW.dload (pc' := 137) K at_135 rfl rfl ?_
    obtain ⟨U, eU⟩ : ∃ z, z = FP.Core.zval FP.Core.b64 (FP.Core.val64 v129) := ⟨_, rfl⟩
    rw [← eU] at zv129
    have zs0 := oZv.int dv21
    obtain ⟨Z0, eZ0⟩ : ∃ z, z = (v14.toInt) * (FP.Core.one64 : Int) := ⟨_, rfl⟩
    rw [← eZ0] at zs0
    have zs1 := oZv.int dv38
    obtain ⟨Z1, eZ1⟩ : ∃ z, z = (v31.toInt) * (FP.Core.one64 : Int) := ⟨_, rfl⟩
    rw [← eZ1] at zs1
    have zs2 := oZv.int dv56
    obtain ⟨Z2, eZ2⟩ : ∃ z, z = (v49.toInt) * (FP.Core.one64 : Int) := ⟨_, rfl⟩
    rw [← eZ2] at zs2
    have zs3 := oZv.int dv74
    obtain ⟨Z3, eZ3⟩ : ∃ z, z = (v67.toInt) * (FP.Core.one64 : Int) := ⟨_, rfl⟩
    rw [← eZ3] at zs3
    have zs4 := oZv.int dv92
    obtain ⟨Z4, eZ4⟩ : ∃ z, z = (v85.toInt) * (FP.Core.one64 : Int) := ⟨_, rfl⟩
    rw [← eZ4] at zs4
    have zs5 := oZv.int dv110
    obtain ⟨Z5, eZ5⟩ : ∃ z, z = (v103.toInt) * (FP.Core.one64 : Int) := ⟨_, rfl⟩
    rw [← eZ5] at zs5
    have mo0 : Z0 ≤ Z1 := by rw [eZ0, eZ1]; exact oZmono (by omega)
    have mo1 : Z1 ≤ Z2 := by rw [eZ1, eZ2]; exact oZmono (by omega)
    have mo2 : Z2 ≤ Z3 := by rw [eZ2, eZ3]; exact oZmono (by omega)
    have mo3 : Z3 ≤ Z4 := by rw [eZ3, eZ4]; exact oZmono (by omega)
    have mo4 : Z4 ≤ Z5 := by rw [eZ4, eZ5]; exact oZmono (by omega)
    refine oW.callS (argsL := [(.ref a2), (.int (2 : Int32)), (.double v129)]) (S := []) (rm := ({ frames := 0, cells := 0, slots := 0, locals := 0 } : Room)) (W := 0) (cells' := 1) (slots' := 6) (pc' := 140) K (hw _ (List.mem_of_getElem? (i := 3) rfl)) (hw _ (List.mem_of_getElem? (i := 4) rfl)) (hw _ (List.mem_of_getElem? (i := 5) rfl)) (hw _ (List.mem_of_getElem? (i := 6) rfl)) (by decide) (own_fa2 hw a2 v129 v21 v38 v56 v74 v92 v110 U Z0 Z1 Z2 Z3 Z4 Z5 zv129 zs0 zs1 zs2 zs3 zs4 zs5 ⟨mo0, mo1, mo2, mo3, mo4⟩) (lenOf pd_0 rfl) at_137 rfl rfl (Nat.le_of_eq rfl) (by decide) (by decide) (by decide) (by decide) rfl rfl rfl ?_
    rintro _ _ ⟨r, rfl, hr, rfl⟩
    refine oW.istore (Ls' := #[.val (.int p0), .val (.int p1), .val (.int p2), .val (.ref a2), .val (.int v103), .val (.int (2 : Int32)), .val (.double v129), .second, .val (.int r), .unset]) (pc' := 142) K at_140 rfl rfl ?_
    refine oW.iload (pc' := 144) K at_142 rfl rfl ?_
    refine oW.istore (Ls' := #[.val (.int p0), .val (.int p1), .val (.int p2), .val (.ref a2), .val (.int v103), .val (.int (2 : Int32)), .val (.double v129), .second, .val (.int r), .val (.int (2 : Int32))]) (pc' := 146) K at_144 rfl rfl ?_
    refine oW.iconst (v := (4 : Int32)) (pc' := 147) K at_146 (by decide) rfl ?_
    refine oW.iload (pc' := 149) K at_147 rfl rfl ?_
    refine oW.icmp_gt (pc' := 164) (pc3 := 152) K at_149 (by decide) (by decide) rfl (fun _ => ?_) (fun q => absurd q (by decide))
    refine oW.iconst (v := (3 : Int32)) (pc' := 165) K at_164 (by decide) rfl ?_
    refine oW.iload (pc' := 167) K at_165 rfl rfl ?_
    refine oW.icmp_gt (pc' := 182) (pc3 := 170) K at_167 (by decide) (by decide) rfl (fun _ => ?_) (fun q => absurd q (by decide))
    refine oW.iconst (v := (2 : Int32)) (pc' := 183) K at_182 (by decide) rfl ?_
    refine oW.iload (pc' := 185) K at_183 rfl rfl ?_
    refine oW.icmp_gt (pc' := 200) (pc3 := 188) K at_185 (by decide) (by decide) rfl (fun q => absurd q (by decide)) (fun _ => ?_)
    refine oW.join (F := fun z : Int32 => (U < Z2 ∧ z.toInt = 2) ∨ (¬ U < Z2 ∧ z.toInt = 2)) (pcj := 200) (Lf := fun z => #[.val (.int p0), .val (.int p1), .val (.int p2), .val (.ref a2), .val (.int v103), .val (.int (2 : Int32)), .val (.double v129), .second, .val (.int r), .val (.int z)]) (Sf := fun z => []) (dsf := fun z => [(a2, .inl (.double, [(.double v21), (.double v38), (.double v56), (.double v74), (.double v92), (.double v110)]))]) ?_ ?_
    · intro J
      refine oW.dload (pc' := 190) K at_188 rfl rfl ?_
      refine oW.aloadN (pc' := 191) K at_190 rfl rfl rfl ?_
      refine oW.iconst (v := (2 : Int32)) (pc' := 192) K at_191 (by decide) rfl ?_
      refine oW.daload (i := 0) (k := 2) (pc' := 193) K at_192 rfl rfl (by decide) rfl rfl ?_
      obtain ⟨v193, ev193⟩ : ∃ z : Int32, z = cmpValue (FP.dcmp v129 v56) .g := ⟨_, rfl⟩
      refine oW.dcmp (pc' := 194) K at_193 ev193 rfl ?_
      refine oW.if_ge (pc' := 200) (pc3 := 197) K at_194 (by decide) (by decide) rfl (fun c194 => ?_) (fun c194 => ?_)
      · rw [(oCmpZ zv129 zs2 ev193).1] at c194
        exact J (2 : Int32) (by first | omega | (have oTs' := oTs; omega) | (simp only [Int32.reduceToInt, Int64.reduceToInt]; omega))
      · rw [(oCmpZ zv129 zs2 ev193).1] at c194
        refine oW.iconst (v := (2 : Int32)) (pc' := 198) K at_197 (by decide) rfl ?_
        refine oW.istore (Ls' := #[.val (.int p0), .val (.int p1), .val (.int p2), .val (.ref a2), .val (.int v103), .val (.int (2 : Int32)), .val (.double v129), .second, .val (.int r), .val (.int (2 : Int32))]) (pc' := 200) K at_198 rfl rfl ?_
        exact J (2 : Int32) (by first | omega | (have oTs' := oTs; omega) | (simp only [Int32.reduceToInt, Int64.reduceToInt]; omega))
    intro k2 hk2
    refine oW.iconst (v := (1 : Int32)) (pc' := 201) K at_200 (by decide) rfl ?_
    refine oW.iload (pc' := 203) K at_201 rfl rfl ?_
    refine oW.icmp_gt (pc' := 218) (pc3 := 206) K at_203 (by decide) (by decide) rfl (fun q => absurd q (by decide)) (fun _ => ?_)
    refine oW.join (F := fun z : Int32 => (U < Z1 ∧ z.toInt = 1) ∨ (¬ U < Z1 ∧ z.toInt = k2.toInt)) (pcj := 218) (Lf := fun z => #[.val (.int p0), .val (.int p1), .val (.int p2), .val (.ref a2), .val (.int v103), .val (.int (2 : Int32)), .val (.double v129), .second, .val (.int r), .val (.int z)]) (Sf := fun z => []) (dsf := fun z => [(a2, .inl (.double, [(.double v21), (.double v38), (.double v56), (.double v74), (.double v92), (.double v110)]))]) ?_ ?_
    · intro J
      refine oW.dload (pc' := 208) K at_206 rfl rfl ?_
      refine oW.aloadN (pc' := 209) K at_208 rfl rfl rfl ?_
      refine oW.iconst (v := (1 : Int32)) (pc' := 210) K at_209 (by decide) rfl ?_
      refine oW.daload (i := 0) (k := 1) (pc' := 211) K at_210 rfl rfl (by decide) rfl rfl ?_
      obtain ⟨v211, ev211⟩ : ∃ z : Int32, z = cmpValue (FP.dcmp v129 v38) .g := ⟨_, rfl⟩
      refine oW.dcmp (pc' := 212) K at_211 ev211 rfl ?_
      refine oW.if_ge (pc' := 218) (pc3 := 215) K at_212 (by decide) (by decide) rfl (fun c212 => ?_) (fun c212 => ?_)
      · rw [(oCmpZ zv129 zs1 ev211).1] at c212
        exact J k2 (by first | omega | (have oTs' := oTs; omega) | (simp only [Int32.reduceToInt, Int64.reduceToInt]; omega))
      · rw [(oCmpZ zv129 zs1 ev211).1] at c212
        refine oW.iconst (v := (1 : Int32)) (pc' := 216) K at_215 (by decide) rfl ?_
        refine oW.istore (Ls' := #[.val (.int p0), .val (.int p1), .val (.int p2), .val (.ref a2), .val (.int v103), .val (.int (2 : Int32)), .val (.double v129), .second, .val (.int r), .val (.int (1 : Int32))]) (pc' := 218) K at_216 rfl rfl ?_
        exact J (1 : Int32) (by first | omega | (have oTs' := oTs; omega) | (simp only [Int32.reduceToInt, Int64.reduceToInt]; omega))
    intro k1 hk1
    refine oW.join (F := fun z : Int32 => (U < Z0 ∧ z.toInt = 0) ∨ (¬ U < Z0 ∧ z.toInt = k1.toInt)) (pcj := 230) (Lf := fun z => #[.val (.int p0), .val (.int p1), .val (.int p2), .val (.ref a2), .val (.int v103), .val (.int (2 : Int32)), .val (.double v129), .second, .val (.int r), .val (.int z)]) (Sf := fun z => []) (dsf := fun z => [(a2, .inl (.double, [(.double v21), (.double v38), (.double v56), (.double v74), (.double v92), (.double v110)]))]) ?_ ?_
    · intro J
      refine oW.dload (pc' := 220) K at_218 rfl rfl ?_
      refine oW.aloadN (pc' := 221) K at_220 rfl rfl rfl ?_
      refine oW.iconst (v := (0 : Int32)) (pc' := 222) K at_221 (by decide) rfl ?_
      refine oW.daload (i := 0) (k := 0) (pc' := 223) K at_222 rfl rfl (by decide) rfl rfl ?_
      obtain ⟨v223, ev223⟩ : ∃ z : Int32, z = cmpValue (FP.dcmp v129 v21) .g := ⟨_, rfl⟩
      refine oW.dcmp (pc' := 224) K at_223 ev223 rfl ?_
      refine oW.if_ge (pc' := 230) (pc3 := 227) K at_224 (by decide) (by decide) rfl (fun c224 => ?_) (fun c224 => ?_)
      · rw [(oCmpZ zv129 zs0 ev223).1] at c224
        exact J k1 (by first | omega | (have oTs' := oTs; omega) | (simp only [Int32.reduceToInt, Int64.reduceToInt]; omega))
      · rw [(oCmpZ zv129 zs0 ev223).1] at c224
        refine oW.iconst (v := (0 : Int32)) (pc' := 228) K at_227 (by decide) rfl ?_
        refine oW.istore (Ls' := #[.val (.int p0), .val (.int p1), .val (.int p2), .val (.ref a2), .val (.int v103), .val (.int (2 : Int32)), .val (.double v129), .second, .val (.int r), .val (.int (0 : Int32))]) (pc' := 230) K at_228 rfl rfl ?_
        exact J (0 : Int32) (by first | omega | (have oTs' := oTs; omega) | (simp only [Int32.reduceToInt, Int64.reduceToInt]; omega))
    intro k0 hk0
    refine oW.iload (pc' := 232) K at_230 rfl rfl ?_
    refine oW.iload (pc' := 234) K at_232 rfl rfl ?_
    refine oW.icmp_ne (pc' := 241) (pc3 := 237) K at_234 (by decide) (by decide) rfl (fun q => absurd (oEq32.mpr (by first | omega | (have oTs' := oTs; omega) | (simp only [Int32.reduceToInt, Int64.reduceToInt]; omega))) q) (fun c234 => ?_)
    refine oW.iconst (v := (1 : Int32)) (pc' := 238) K at_237 (by decide) rfl ?_
    refine oW.goto (pc' := 242) K at_238 (by decide) (by decide) ?_
    exact oW.retB K rfl at_242 (by decide) (by decide) ⟨_, rfl, rfl⟩
  · subst hv118
    refine oW.iloadN (pc' := 122) K at_121 rfl rfl ?_
    refine oW.bipush (v := (100 : Int32)) (pc' := 124) K at_122 (by decide) rfl ?_
    obtain ⟨v124, ev124⟩ : ∃ z : Int32, z = p2 % (100 : Int32) := ⟨_, rfl⟩
    refine oW.irem (pc' := 125) K at_124 (by decide) ev124 rfl ?_
    obtain ⟨v125, ev125⟩ : ∃ z : UInt64, z = FP.i2d v124 := ⟨_, rfl⟩
    have dv125 : FP.Core.DInt (v124).toInt v125 := oI2D ev125
    refine oW.i2d (pc' := 126) K at_125 ev125 rfl ?_
    refine oW.ldc2D (pc' := 129) K (hw _ (List.mem_of_getElem? (i := 2) rfl)) at_126 rfl ?_
    obtain ⟨v129, ev129⟩ : ∃ z : UInt64, z = FP.dmul v125 (4602678819172646912 : UInt64) := ⟨_, rfl⟩
    have mv129 : oMag 1057 v129 := oMMul (oMI2D ev125) (by unfold oMag Jvm.Free.Fl.Mag64; decide : oMag 1023 _) ev129 (by decide)
    have zv129 := oZv.of (oMNN mv129 (by decide))
    refine oW.dmul (pc' := 130) K at_129 ev129 (oMNN mv129 (by decide)) rfl ?_
    refine oW.dstore (Ls' := #[.val (.int p0), .val (.int p1), .val (.int p2), .val (.ref a2), .val (.int v103), .val (.int (3 : Int32)), .val (.double v129), .second, .unset, .unset]) (pc' := 132) K at_130 rfl rfl ?_
    refine oW.aloadN (pc' := 133) K at_132 rfl rfl rfl ?_
    refine oW.iload (pc' := 135) K at_133 rfl rfl ?_
    refine oW.dload (pc' := 137) K at_135 rfl rfl ?_
    obtain ⟨U, eU⟩ : ∃ z, z = FP.Core.zval FP.Core.b64 (FP.Core.val64 v129) := ⟨_, rfl⟩
    rw [← eU] at zv129
    have zs0 := oZv.int dv21
    obtain ⟨Z0, eZ0⟩ : ∃ z, z = (v14.toInt) * (FP.Core.one64 : Int) := ⟨_, rfl⟩
    rw [← eZ0] at zs0
    have zs1 := oZv.int dv38
    obtain ⟨Z1, eZ1⟩ : ∃ z, z = (v31.toInt) * (FP.Core.one64 : Int) := ⟨_, rfl⟩
    rw [← eZ1] at zs1
    have zs2 := oZv.int dv56
    obtain ⟨Z2, eZ2⟩ : ∃ z, z = (v49.toInt) * (FP.Core.one64 : Int) := ⟨_, rfl⟩
    rw [← eZ2] at zs2
    have zs3 := oZv.int dv74
    obtain ⟨Z3, eZ3⟩ : ∃ z, z = (v67.toInt) * (FP.Core.one64 : Int) := ⟨_, rfl⟩
    rw [← eZ3] at zs3
    have zs4 := oZv.int dv92
    obtain ⟨Z4, eZ4⟩ : ∃ z, z = (v85.toInt) * (FP.Core.one64 : Int) := ⟨_, rfl⟩
    rw [← eZ4] at zs4
    have zs5 := oZv.int dv110
    obtain ⟨Z5, eZ5⟩ : ∃ z, z = (v103.toInt) * (FP.Core.one64 : Int) := ⟨_, rfl⟩
    rw [← eZ5] at zs5
    have mo0 : Z0 ≤ Z1 := by rw [eZ0, eZ1]; exact oZmono (by omega)
    have mo1 : Z1 ≤ Z2 := by rw [eZ1, eZ2]; exact oZmono (by omega)
    have mo2 : Z2 ≤ Z3 := by rw [eZ2, eZ3]; exact oZmono (by omega)
    have mo3 : Z3 ≤ Z4 := by rw [eZ3, eZ4]; exact oZmono (by omega)
    have mo4 : Z4 ≤ Z5 := by rw [eZ4, eZ5]; exact oZmono (by omega)
    refine oW.callS (argsL := [(.ref a2), (.int (3 : Int32)), (.double v129)]) (S := []) (rm := ({ frames := 0, cells := 0, slots := 0, locals := 0 } : Room)) (W := 0) (cells' := 1) (slots' := 6) (pc' := 140) K (hw _ (List.mem_of_getElem? (i := 3) rfl)) (hw _ (List.mem_of_getElem? (i := 4) rfl)) (hw _ (List.mem_of_getElem? (i := 5) rfl)) (hw _ (List.mem_of_getElem? (i := 6) rfl)) (by decide) (own_fa3 hw a2 v129 v21 v38 v56 v74 v92 v110 U Z0 Z1 Z2 Z3 Z4 Z5 zv129 zs0 zs1 zs2 zs3 zs4 zs5 ⟨mo0, mo1, mo2, mo3, mo4⟩) (lenOf pd_0 rfl) at_137 rfl rfl (Nat.le_of_eq rfl) (by decide) (by decide) (by decide) (by decide) rfl rfl rfl ?_
    rintro _ _ ⟨r, rfl, hr, rfl⟩
    refine oW.istore (Ls' := #[.val (.int p0), .val (.int p1), .val (.int p2), .val (.ref a2), .val (.int v103), .val (.int (3 : Int32)), .val (.double v129), .second, .val (.int r), .unset]) (pc' := 142) K at_140 rfl rfl ?_
    refine oW.iload (pc' := 144) K at_142 rfl rfl ?_
    refine oW.istore (Ls' := #[.val (.int p0), .val (.int p1), .val (.int p2), .val (.ref a2), .val (.int v103), .val (.int (3 : Int32)), .val (.double v129), .second, .val (.int r), .val (.int (3 : Int32))]) (pc' := 146) K at_144 rfl rfl ?_
    refine oW.iconst (v := (4 : Int32)) (pc' := 147) K at_146 (by decide) rfl ?_
    refine oW.iload (pc' := 149) K at_147 rfl rfl ?_
    refine oW.icmp_gt (pc' := 164) (pc3 := 152) K at_149 (by decide) (by decide) rfl (fun _ => ?_) (fun q => absurd q (by decide))
    refine oW.iconst (v := (3 : Int32)) (pc' := 165) K at_164 (by decide) rfl ?_
    refine oW.iload (pc' := 167) K at_165 rfl rfl ?_
    refine oW.icmp_gt (pc' := 182) (pc3 := 170) K at_167 (by decide) (by decide) rfl (fun q => absurd q (by decide)) (fun _ => ?_)
    refine oW.join (F := fun z : Int32 => (U < Z3 ∧ z.toInt = 3) ∨ (¬ U < Z3 ∧ z.toInt = 3)) (pcj := 182) (Lf := fun z => #[.val (.int p0), .val (.int p1), .val (.int p2), .val (.ref a2), .val (.int v103), .val (.int (3 : Int32)), .val (.double v129), .second, .val (.int r), .val (.int z)]) (Sf := fun z => []) (dsf := fun z => [(a2, .inl (.double, [(.double v21), (.double v38), (.double v56), (.double v74), (.double v92), (.double v110)]))]) ?_ ?_
    · intro J
      refine oW.dload (pc' := 172) K at_170 rfl rfl ?_
      refine oW.aloadN (pc' := 173) K at_172 rfl rfl rfl ?_
      refine oW.iconst (v := (3 : Int32)) (pc' := 174) K at_173 (by decide) rfl ?_
      refine oW.daload (i := 0) (k := 3) (pc' := 175) K at_174 rfl rfl (by decide) rfl rfl ?_
      obtain ⟨v175, ev175⟩ : ∃ z : Int32, z = cmpValue (FP.dcmp v129 v74) .g := ⟨_, rfl⟩
      refine oW.dcmp (pc' := 176) K at_175 ev175 rfl ?_
      refine oW.if_ge (pc' := 182) (pc3 := 179) K at_176 (by decide) (by decide) rfl (fun c176 => ?_) (fun c176 => ?_)
      · rw [(oCmpZ zv129 zs3 ev175).1] at c176
        exact J (3 : Int32) (by first | omega | (have oTs' := oTs; omega) | (simp only [Int32.reduceToInt, Int64.reduceToInt]; omega))
      · rw [(oCmpZ zv129 zs3 ev175).1] at c176
        refine oW.iconst (v := (3 : Int32)) (pc' := 180) K at_179 (by decide) rfl ?_
        refine oW.istore (Ls' := #[.val (.int p0), .val (.int p1), .val (.int p2), .val (.ref a2), .val (.int v103), .val (.int (3 : Int32)), .val (.double v129), .second, .val (.int r), .val (.int (3 : Int32))]) (pc' := 182) K at_180 rfl rfl ?_
        exact J (3 : Int32) (by first | omega | (have oTs' := oTs; omega) | (simp only [Int32.reduceToInt, Int64.reduceToInt]; omega))
    intro k3 hk3
    refine oW.iconst (v := (2 : Int32)) (pc' := 183) K at_182 (by decide) rfl ?_
    refine oW.iload (pc' := 185) K at_183 rfl rfl ?_
    refine oW.icmp_gt (pc' := 200) (pc3 := 188) K at_185 (by decide) (by decide) rfl (fun q => absurd q (by decide)) (fun _ => ?_)
    refine oW.join (F := fun z : Int32 => (U < Z2 ∧ z.toInt = 2) ∨ (¬ U < Z2 ∧ z.toInt = k3.toInt)) (pcj := 200) (Lf := fun z => #[.val (.int p0), .val (.int p1), .val (.int p2), .val (.ref a2), .val (.int v103), .val (.int (3 : Int32)), .val (.double v129), .second, .val (.int r), .val (.int z)]) (Sf := fun z => []) (dsf := fun z => [(a2, .inl (.double, [(.double v21), (.double v38), (.double v56), (.double v74), (.double v92), (.double v110)]))]) ?_ ?_
    · intro J
      refine oW.dload (pc' := 190) K at_188 rfl rfl ?_
      refine oW.aloadN (pc' := 191) K at_190 rfl rfl rfl ?_
      refine oW.iconst (v := (2 : Int32)) (pc' := 192) K at_191 (by decide) rfl ?_
      refine oW.daload (i := 0) (k := 2) (pc' := 193) K at_192 rfl rfl (by decide) rfl rfl ?_
      obtain ⟨v193, ev193⟩ : ∃ z : Int32, z = cmpValue (FP.dcmp v129 v56) .g := ⟨_, rfl⟩
      refine oW.dcmp (pc' := 194) K at_193 ev193 rfl ?_
      refine oW.if_ge (pc' := 200) (pc3 := 197) K at_194 (by decide) (by decide) rfl (fun c194 => ?_) (fun c194 => ?_)
      · rw [(oCmpZ zv129 zs2 ev193).1] at c194
        exact J k3 (by first | omega | (have oTs' := oTs; omega) | (simp only [Int32.reduceToInt, Int64.reduceToInt]; omega))
      · rw [(oCmpZ zv129 zs2 ev193).1] at c194
        refine oW.iconst (v := (2 : Int32)) (pc' := 198) K at_197 (by decide) rfl ?_
        refine oW.istore (Ls' := #[.val (.int p0), .val (.int p1), .val (.int p2), .val (.ref a2), .val (.int v103), .val (.int (3 : Int32)), .val (.double v129), .second, .val (.int r), .val (.int (2 : Int32))]) (pc' := 200) K at_198 rfl rfl ?_
        exact J (2 : Int32) (by first | omega | (have oTs' := oTs; omega) | (simp only [Int32.reduceToInt, Int64.reduceToInt]; omega))
    intro k2 hk2
    refine oW.iconst (v := (1 : Int32)) (pc' := 201) K at_200 (by decide) rfl ?_
    refine oW.iload (pc' := 203) K at_201 rfl rfl ?_
    refine oW.icmp_gt (pc' := 218) (pc3 := 206) K at_203 (by decide) (by decide) rfl (fun q => absurd q (by decide)) (fun _ => ?_)
    refine oW.join (F := fun z : Int32 => (U < Z1 ∧ z.toInt = 1) ∨ (¬ U < Z1 ∧ z.toInt = k2.toInt)) (pcj := 218) (Lf := fun z => #[.val (.int p0), .val (.int p1), .val (.int p2), .val (.ref a2), .val (.int v103), .val (.int (3 : Int32)), .val (.double v129), .second, .val (.int r), .val (.int z)]) (Sf := fun z => []) (dsf := fun z => [(a2, .inl (.double, [(.double v21), (.double v38), (.double v56), (.double v74), (.double v92), (.double v110)]))]) ?_ ?_
    · intro J
      refine oW.dload (pc' := 208) K at_206 rfl rfl ?_
      refine oW.aloadN (pc' := 209) K at_208 rfl rfl rfl ?_
      refine oW.iconst (v := (1 : Int32)) (pc' := 210) K at_209 (by decide) rfl ?_
      refine oW.daload (i := 0) (k := 1) (pc' := 211) K at_210 rfl rfl (by decide) rfl rfl ?_
      obtain ⟨v211, ev211⟩ : ∃ z : Int32, z = cmpValue (FP.dcmp v129 v38) .g := ⟨_, rfl⟩
      refine oW.dcmp (pc' := 212) K at_211 ev211 rfl ?_
      refine oW.if_ge (pc' := 218) (pc3 := 215) K at_212 (by decide) (by decide) rfl (fun c212 => ?_) (fun c212 => ?_)
      · rw [(oCmpZ zv129 zs1 ev211).1] at c212
        exact J k2 (by first | omega | (have oTs' := oTs; omega) | (simp only [Int32.reduceToInt, Int64.reduceToInt]; omega))
      · rw [(oCmpZ zv129 zs1 ev211).1] at c212
        refine oW.iconst (v := (1 : Int32)) (pc' := 216) K at_215 (by decide) rfl ?_
        refine oW.istore (Ls' := #[.val (.int p0), .val (.int p1), .val (.int p2), .val (.ref a2), .val (.int v103), .val (.int (3 : Int32)), .val (.double v129), .second, .val (.int r), .val (.int (1 : Int32))]) (pc' := 218) K at_216 rfl rfl ?_
        exact J (1 : Int32) (by first | omega | (have oTs' := oTs; omega) | (simp only [Int32.reduceToInt, Int64.reduceToInt]; omega))
    intro k1 hk1
    refine oW.join (F := fun z : Int32 => (U < Z0 ∧ z.toInt = 0) ∨ (¬ U < Z0 ∧ z.toInt = k1.toInt)) (pcj := 230) (Lf := fun z => #[.val (.int p0), .val (.int p1), .val (.int p2), .val (.ref a2), .val (.int v103), .val (.int (3 : Int32)), .val (.double v129), .second, .val (.int r), .val (.int z)]) (Sf := fun z => []) (dsf := fun z => [(a2, .inl (.double, [(.double v21), (.double v38), (.double v56), (.double v74), (.double v92), (.double v110)]))]) ?_ ?_
    · intro J
      refine oW.dload (pc' := 220) K at_218 rfl rfl ?_
      refine oW.aloadN (pc' := 221) K at_220 rfl rfl rfl ?_
      refine oW.iconst (v := (0 : Int32)) (pc' := 222) K at_221 (by decide) rfl ?_
      refine oW.daload (i := 0) (k := 0) (pc' := 223) K at_222 rfl rfl (by decide) rfl rfl ?_
      obtain ⟨v223, ev223⟩ : ∃ z : Int32, z = cmpValue (FP.dcmp v129 v21) .g := ⟨_, rfl⟩
      refine oW.dcmp (pc' := 224) K at_223 ev223 rfl ?_
      refine oW.if_ge (pc' := 230) (pc3 := 227) K at_224 (by decide) (by decide) rfl (fun c224 => ?_) (fun c224 => ?_)
      · rw [(oCmpZ zv129 zs0 ev223).1] at c224
        exact J k1 (by first | omega | (have oTs' := oTs; omega) | (simp only [Int32.reduceToInt, Int64.reduceToInt]; omega))
      · rw [(oCmpZ zv129 zs0 ev223).1] at c224
        refine oW.iconst (v := (0 : Int32)) (pc' := 228) K at_227 (by decide) rfl ?_
        refine oW.istore (Ls' := #[.val (.int p0), .val (.int p1), .val (.int p2), .val (.ref a2), .val (.int v103), .val (.int (3 : Int32)), .val (.double v129), .second, .val (.int r), .val (.int (0 : Int32))]) (pc' := 230) K at_228 rfl rfl ?_
        exact J (0 : Int32) (by first | omega | (have oTs' := oTs; omega) | (simp only [Int32.reduceToInt, Int64.reduceToInt]; omega))
    intro k0 hk0
    refine oW.iload (pc' := 232) K at_230 rfl rfl ?_
    refine oW.iload (pc' := 234) K at_232 rfl rfl ?_
    refine oW.icmp_ne (pc' := 241) (pc3 := 237) K at_234 (by decide) (by decide) rfl (fun q => absurd (oEq32.mpr (by first | omega | (have oTs' := oTs; omega) | (simp only [Int32.reduceToInt, Int64.reduceToInt]; omega))) q) (fun c234 => ?_)
    refine oW.iconst (v := (1 : Int32)) (pc' := 238) K at_237 (by decide) rfl ?_
    refine oW.goto (pc' := 242) K at_238 (by decide) (by decide) ?_
    exact oW.retB K rfl at_242 (by decide) (by decide) ⟨_, rfl, rfl⟩
  · subst hv118
    refine oW.iloadN (pc' := 122) K at_121 rfl rfl ?_
    refine oW.bipush (v := (100 : Int32)) (pc' := 124) K at_122 (by decide) rfl ?_
    obtain ⟨v124, ev124⟩ : ∃ z : Int32, z = p2 % (100 : Int32) := ⟨_, rfl⟩
    refine oW.irem (pc' := 125) K at_124 (by decide) ev124 rfl ?_
    obtain ⟨v125, ev125⟩ : ∃ z : UInt64, z = FP.i2d v124 := ⟨_, rfl⟩
    have dv125 : FP.Core.DInt (v124).toInt v125 := oI2D ev125
    refine oW.i2d (pc' := 126) K at_125 ev125 rfl ?_
    refine oW.ldc2D (pc' := 129) K (hw _ (List.mem_of_getElem? (i := 2) rfl)) at_126 rfl ?_
    obtain ⟨v129, ev129⟩ : ∃ z : UInt64, z = FP.dmul v125 (4602678819172646912 : UInt64) := ⟨_, rfl⟩
    have mv129 : oMag 1057 v129 := oMMul (oMI2D ev125) (by unfold oMag Jvm.Free.Fl.Mag64; decide : oMag 1023 _) ev129 (by decide)
    have zv129 := oZv.of (oMNN mv129 (by decide))
    refine oW.dmul (pc' := 130) K at_129 ev129 (oMNN mv129 (by decide)) rfl ?_
    refine oW.dstore (Ls' := #[.val (.int p0), .val (.int p1), .val (.int p2), .val (.ref a2), .val (.int v103), .val (.int (4 : Int32)), .val (.double v129), .second, .unset, .unset]) (pc' := 132) K at_130 rfl rfl ?_
    refine oW.aloadN (pc' := 133) K at_132 rfl rfl rfl ?_
    refine oW.iload (pc' := 135) K at_133 rfl rfl ?_
    refine oW.dload (pc' := 137) K at_135 rfl rfl ?_
    obtain ⟨U, eU⟩ : ∃ z, z = FP.Core.zval FP.Core.b64 (FP.Core.val64 v129) := ⟨_, rfl⟩
    rw [← eU] at zv129
    have zs0 := oZv.int dv21
    obtain ⟨Z0, eZ0⟩ : ∃ z, z = (v14.toInt) * (FP.Core.one64 : Int) := ⟨_, rfl⟩
    rw [← eZ0] at zs0
    have zs1 := oZv.int dv38
    obtain ⟨Z1, eZ1⟩ : ∃ z, z = (v31.toInt) * (FP.Core.one64 : Int) := ⟨_, rfl⟩
    rw [← eZ1] at zs1
    have zs2 := oZv.int dv56
    obtain ⟨Z2, eZ2⟩ : ∃ z, z = (v49.toInt) * (FP.Core.one64 : Int) := ⟨_, rfl⟩
    rw [← eZ2] at zs2
    have zs3 := oZv.int dv74
    obtain ⟨Z3, eZ3⟩ : ∃ z, z = (v67.toInt) * (FP.Core.one64 : Int) := ⟨_, rfl⟩
    rw [← eZ3] at zs3
    have zs4 := oZv.int dv92
    obtain ⟨Z4, eZ4⟩ : ∃ z, z = (v85.toInt) * (FP.Core.one64 : Int) := ⟨_, rfl⟩
    rw [← eZ4] at zs4
    have zs5 := oZv.int dv110
    obtain ⟨Z5, eZ5⟩ : ∃ z, z = (v103.toInt) * (FP.Core.one64 : Int) := ⟨_, rfl⟩
    rw [← eZ5] at zs5
    have mo0 : Z0 ≤ Z1 := by rw [eZ0, eZ1]; exact oZmono (by omega)
    have mo1 : Z1 ≤ Z2 := by rw [eZ1, eZ2]; exact oZmono (by omega)
    have mo2 : Z2 ≤ Z3 := by rw [eZ2, eZ3]; exact oZmono (by omega)
    have mo3 : Z3 ≤ Z4 := by rw [eZ3, eZ4]; exact oZmono (by omega)
    have mo4 : Z4 ≤ Z5 := by rw [eZ4, eZ5]; exact oZmono (by omega)
    refine oW.callS (argsL := [(.ref a2), (.int (4 : Int32)), (.double v129)]) (S := []) (rm := ({ frames := 0, cells := 0, slots := 0, locals := 0 } : Room)) (W := 0) (cells' := 1) (slots' := 6) (pc' := 140) K (hw _ (List.mem_of_getElem? (i := 3) rfl)) (hw _ (List.mem_of_getElem? (i := 4) rfl)) (hw _ (List.mem_of_getElem? (i := 5) rfl)) (hw _ (List.mem_of_getElem? (i := 6) rfl)) (by decide) (own_fa4 hw a2 v129 v21 v38 v56 v74 v92 v110 U Z0 Z1 Z2 Z3 Z4 Z5 zv129 zs0 zs1 zs2 zs3 zs4 zs5 ⟨mo0, mo1, mo2, mo3, mo4⟩) (lenOf pd_0 rfl) at_137 rfl rfl (Nat.le_of_eq rfl) (by decide) (by decide) (by decide) (by decide) rfl rfl rfl ?_
    rintro _ _ ⟨r, rfl, hr, rfl⟩
    refine oW.istore (Ls' := #[.val (.int p0), .val (.int p1), .val (.int p2), .val (.ref a2), .val (.int v103), .val (.int (4 : Int32)), .val (.double v129), .second, .val (.int r), .unset]) (pc' := 142) K at_140 rfl rfl ?_
    refine oW.iload (pc' := 144) K at_142 rfl rfl ?_
    refine oW.istore (Ls' := #[.val (.int p0), .val (.int p1), .val (.int p2), .val (.ref a2), .val (.int v103), .val (.int (4 : Int32)), .val (.double v129), .second, .val (.int r), .val (.int (4 : Int32))]) (pc' := 146) K at_144 rfl rfl ?_
    refine oW.iconst (v := (4 : Int32)) (pc' := 147) K at_146 (by decide) rfl ?_
    refine oW.iload (pc' := 149) K at_147 rfl rfl ?_
    refine oW.icmp_gt (pc' := 164) (pc3 := 152) K at_149 (by decide) (by decide) rfl (fun q => absurd q (by decide)) (fun _ => ?_)
    refine oW.join (F := fun z : Int32 => (U < Z4 ∧ z.toInt = 4) ∨ (¬ U < Z4 ∧ z.toInt = 4)) (pcj := 164) (Lf := fun z => #[.val (.int p0), .val (.int p1), .val (.int p2), .val (.ref a2), .val (.int v103), .val (.int (4 : Int32)), .val (.double v129), .second, .val (.int r), .val (.int z)]) (Sf := fun z => []) (dsf := fun z => [(a2, .inl (.double, [(.double v21), (.double v38), (.double v56), (.double v74), (.double v92), (.double v110)]))]) ?_ ?_
    · intro J
      refine oW.dload (pc' := 154) K at_152 rfl rfl ?_
      refine oW.aloadN (pc' := 155) K at_154 rfl rfl rfl ?_
      refine oW.iconst (v := (4 : Int32)) (pc' := 156) K at_155 (by decide) rfl ?_
      refine oW.daload (i := 0) (k := 4) (pc' := 157) K at_156 rfl rfl (by decide) rfl rfl ?_
      obtain ⟨v157, ev157⟩ : ∃ z : Int32, z = cmpValue (FP.dcmp v129 v92) .g := ⟨_, rfl⟩
      refine oW.dcmp (pc' := 158) K at_157 ev157 rfl ?_
      refine oW.if_ge (pc' := 164) (pc3 := 161) K at_158 (by decide) (by decide) rfl (fun c158 => ?_) (fun c158 => ?_)
      · rw [(oCmpZ zv129 zs4 ev157).1] at c158
        exact J (4 : Int32) (by first | omega | (have oTs' := oTs; omega) | (simp only [Int32.reduceToInt, Int64.reduceToInt]; omega))
      · rw [(oCmpZ zv129 zs4 ev157).1] at c158
        refine oW.iconst (v := (4 : Int32)) (pc' := 162) K at_161 (by decide) rfl ?_
        refine oW.istore (Ls' := #[.val (.int p0), .val (.int p1), .val (.int p2), .val (.ref a2), .val (.int v103), .val (.int (4 : Int32)), .val (.double v129), .second, .val (.int r), .val (.int (4 : Int32))]) (pc' := 164) K at_162 rfl rfl ?_
        exact J (4 : Int32) (by first | omega | (have oTs' := oTs; omega) | (simp only [Int32.reduceToInt, Int64.reduceToInt]; omega))
    intro k4 hk4
    refine oW.iconst (v := (3 : Int32)) (pc' := 165) K at_164 (by decide) rfl ?_
    refine oW.iload (pc' := 167) K at_165 rfl rfl ?_
    refine oW.icmp_gt (pc' := 182) (pc3 := 170) K at_167 (by decide) (by decide) rfl (fun q => absurd q (by decide)) (fun _ => ?_)
    refine oW.join (F := fun z : Int32 => (U < Z3 ∧ z.toInt = 3) ∨ (¬ U < Z3 ∧ z.toInt = k4.toInt)) (pcj := 182) (Lf := fun z => #[.val (.int p0), .val (.int p1), .val (.int p2), .val (.ref a2), .val (.int v103), .val (.int (4 : Int32)), .val (.double v129), .second, .val (.int r), .val (.int z)]) (Sf := fun z => []) (dsf := fun z => [(a2, .inl (.double, [(.double v21), (.double v38), (.double v56), (.double v74), (.double v92), (.double v110)]))]) ?_ ?_
    · intro J
      refine oW.dload (pc' := 172) K at_170 rfl rfl ?_
      refine oW.aloadN (pc' := 173) K at_172 rfl rfl rfl ?_
      refine oW.iconst (v := (3 : Int32)) (pc' := 174) K at_173 (by decide) rfl ?_
      refine oW.daload (i := 0) (k := 3) (pc' := 175) K at_174 rfl rfl (by decide) rfl rfl ?_
      obtain ⟨v175, ev175⟩ : ∃ z : Int32, z = cmpValue (FP.dcmp v129 v74) .g := ⟨_, rfl⟩
      refine oW.dcmp (pc' := 176) K at_175 ev175 rfl ?_
      refine oW.if_ge (pc' := 182) (pc3 := 179) K at_176 (by decide) (by decide) rfl (fun c176 => ?_) (fun c176 => ?_)
      · rw [(oCmpZ zv129 zs3 ev175).1] at c176
        exact J k4 (by first | omega | (have oTs' := oTs; omega) | (simp only [Int32.reduceToInt, Int64.reduceToInt]; omega))
      · rw [(oCmpZ zv129 zs3 ev175).1] at c176
        refine oW.iconst (v := (3 : Int32)) (pc' := 180) K at_179 (by decide) rfl ?_
        refine oW.istore (Ls' := #[.val (.int p0), .val (.int p1), .val (.int p2), .val (.ref a2), .val (.int v103), .val (.int (4 : Int32)), .val (.double v129), .second, .val (.int r), .val (.int (3 : Int32))]) (pc' := 182) K at_180 rfl rfl ?_
        exact J (3 : Int32) (by first | omega | (have oTs' := oTs; omega) | (simp only [Int32.reduceToInt, Int64.reduceToInt]; omega))
    intro k3 hk3
    refine oW.iconst (v := (2 : Int32)) (pc' := 183) K at_182 (by decide) rfl ?_
    refine oW.iload (pc' := 185) K at_183 rfl rfl ?_
    refine oW.icmp_gt (pc' := 200) (pc3 := 188) K at_185 (by decide) (by decide) rfl (fun q => absurd q (by decide)) (fun _ => ?_)
    refine oW.join (F := fun z : Int32 => (U < Z2 ∧ z.toInt = 2) ∨ (¬ U < Z2 ∧ z.toInt = k3.toInt)) (pcj := 200) (Lf := fun z => #[.val (.int p0), .val (.int p1), .val (.int p2), .val (.ref a2), .val (.int v103), .val (.int (4 : Int32)), .val (.double v129), .second, .val (.int r), .val (.int z)]) (Sf := fun z => []) (dsf := fun z => [(a2, .inl (.double, [(.double v21), (.double v38), (.double v56), (.double v74), (.double v92), (.double v110)]))]) ?_ ?_
    · intro J
      refine oW.dload (pc' := 190) K at_188 rfl rfl ?_
      refine oW.aloadN (pc' := 191) K at_190 rfl rfl rfl ?_
      refine oW.iconst (v := (2 : Int32)) (pc' := 192) K at_191 (by decide) rfl ?_
      refine oW.daload (i := 0) (k := 2) (pc' := 193) K at_192 rfl rfl (by decide) rfl rfl ?_
      obtain ⟨v193, ev193⟩ : ∃ z : Int32, z = cmpValue (FP.dcmp v129 v56) .g := ⟨_, rfl⟩
      refine oW.dcmp (pc' := 194) K at_193 ev193 rfl ?_
      refine oW.if_ge (pc' := 200) (pc3 := 197) K at_194 (by decide) (by decide) rfl (fun c194 => ?_) (fun c194 => ?_)
      · rw [(oCmpZ zv129 zs2 ev193).1] at c194
        exact J k3 (by first | omega | (have oTs' := oTs; omega) | (simp only [Int32.reduceToInt, Int64.reduceToInt]; omega))
      · rw [(oCmpZ zv129 zs2 ev193).1] at c194
        refine oW.iconst (v := (2 : Int32)) (pc' := 198) K at_197 (by decide) rfl ?_
        refine oW.istore (Ls' := #[.val (.int p0), .val (.int p1), .val (.int p2), .val (.ref a2), .val (.int v103), .val (.int (4 : Int32)), .val (.double v129), .second, .val (.int r), .val (.int (2 : Int32))]) (pc' := 200) K at_198 rfl rfl ?_
        exact J (2 : Int32) (by first | omega | (have oTs' := oTs; omega) | (simp only [Int32.reduceToInt, Int64.reduceToInt]; omega))
    intro k2 hk2
    refine oW.iconst (v := (1 : Int32)) (pc' := 201) K at_200 (by decide) rfl ?_
    refine oW.iload (pc' := 203) K at_201 rfl rfl ?_
    refine oW.icmp_gt (pc' := 218) (pc3 := 206) K at_203 (by decide) (by decide) rfl (fun q => absurd q (by decide)) (fun _ => ?_)
    refine oW.join (F := fun z : Int32 => (U < Z1 ∧ z.toInt = 1) ∨ (¬ U < Z1 ∧ z.toInt = k2.toInt)) (pcj := 218) (Lf := fun z => #[.val (.int p0), .val (.int p1), .val (.int p2), .val (.ref a2), .val (.int v103), .val (.int (4 : Int32)), .val (.double v129), .second, .val (.int r), .val (.int z)]) (Sf := fun z => []) (dsf := fun z => [(a2, .inl (.double, [(.double v21), (.double v38), (.double v56), (.double v74), (.double v92), (.double v110)]))]) ?_ ?_
    · intro J
      refine oW.dload (pc' := 208) K at_206 rfl rfl ?_
      refine oW.aloadN (pc' := 209) K at_208 rfl rfl rfl ?_
      refine oW.iconst (v := (1 : Int32)) (pc' := 210) K at_209 (by decide) rfl ?_
      refine oW.daload (i := 0) (k := 1) (pc' := 211) K at_210 rfl rfl (by decide) rfl rfl ?_
      obtain ⟨v211, ev211⟩ : ∃ z : Int32, z = cmpValue (FP.dcmp v129 v38) .g := ⟨_, rfl⟩
      refine oW.dcmp (pc' := 212) K at_211 ev211 rfl ?_
      refine oW.if_ge (pc' := 218) (pc3 := 215) K at_212 (by decide) (by decide) rfl (fun c212 => ?_) (fun c212 => ?_)
      · rw [(oCmpZ zv129 zs1 ev211).1] at c212
        exact J k2 (by first | omega | (have oTs' := oTs; omega) | (simp only [Int32.reduceToInt, Int64.reduceToInt]; omega))
      · rw [(oCmpZ zv129 zs1 ev211).1] at c212
        refine oW.iconst (v := (1 : Int32)) (pc' := 216) K at_215 (by decide) rfl ?_
        refine oW.istore (Ls' := #[.val (.int p0), .val (.int p1), .val (.int p2), .val (.ref a2), .val (.int v103), .val (.int (4 : Int32)), .val (.double v129), .second, .val (.int r), .val (.int (1 : Int32))]) (pc' := 218) K at_216 rfl rfl ?_
        exact J (1 : Int32) (by first | omega | (have oTs' := oTs; omega) | (simp only [Int32.reduceToInt, Int64.reduceToInt]; omega))
    intro k1 hk1
    refine oW.join (F := fun z : Int32 => (U < Z0 ∧ z.toInt = 0) ∨ (¬ U < Z0 ∧ z.toInt = k1.toInt)) (pcj := 230) (Lf := fun z => #[.val (.int p0), .val (.int p1), .val (.int p2), .val (.ref a2), .val (.int v103), .val (.int (4 : Int32)), .val (.double v129), .second, .val (.int r), .val (.int z)]) (Sf := fun z => []) (dsf := fun z => [(a2, .inl (.double, [(.double v21), (.double v38), (.double v56), (.double v74), (.double v92), (.double v110)]))]) ?_ ?_
    · intro J
      refine oW.dload (pc' := 220) K at_218 rfl rfl ?_
      refine oW.aloadN (pc' := 221) K at_220 rfl rfl rfl ?_
      refine oW.iconst (v := (0 : Int32)) (pc' := 222) K at_221 (by decide) rfl ?_
      refine oW.daload (i := 0) (k := 0) (pc' := 223) K at_222 rfl rfl (by decide) rfl rfl ?_
      obtain ⟨v223, ev223⟩ : ∃ z : Int32, z = cmpValue (FP.dcmp v129 v21) .g := ⟨_, rfl⟩
      refine oW.dcmp (pc' := 224) K at_223 ev223 rfl ?_
      refine oW.if_ge (pc' := 230) (pc3 := 227) K at_224 (by decide) (by decide) rfl (fun c224 => ?_) (fun c224 => ?_)
      · rw [(oCmpZ zv129 zs0 ev223).1] at c224
        exact J k1 (by first | omega | (have oTs' := oTs; omega) | (simp only [Int32.reduceToInt, Int64.reduceToInt]; omega))
      · rw [(oCmpZ zv129 zs0 ev223).1] at c224
        refine oW.iconst (v := (0 : Int32)) (pc' := 228) K at_227 (by decide) rfl ?_
        refine oW.istore (Ls' := #[.val (.int p0), .val (.int p1), .val (.int p2), .val (.ref a2), .val (.int v103), .val (.int (4 : Int32)), .val (.double v129), .second, .val (.int r), .val (.int (0 : Int32))]) (pc' := 230) K at_228 rfl rfl ?_
        exact J (0 : Int32) (by first | omega | (have oTs' := oTs; omega) | (simp only [Int32.reduceToInt, Int64.reduceToInt]; omega))
    intro k0 hk0
    refine oW.iload (pc' := 232) K at_230 rfl rfl ?_
    refine oW.iload (pc' := 234) K at_232 rfl rfl ?_
    refine oW.icmp_ne (pc' := 241) (pc3 := 237) K at_234 (by decide) (by decide) rfl (fun q => absurd (oEq32.mpr (by first | omega | (have oTs' := oTs; omega) | (simp only [Int32.reduceToInt, Int64.reduceToInt]; omega))) q) (fun c234 => ?_)
    refine oW.iconst (v := (1 : Int32)) (pc' := 238) K at_237 (by decide) rfl ?_
    refine oW.goto (pc' := 242) K at_238 (by decide) (by decide) ?_
    exact oW.retB K rfl at_242 (by decide) (by decide) ⟨_, rfl, rfl⟩
  · subst hv118
    refine oW.iloadN (pc' := 122) K at_121 rfl rfl ?_
    refine oW.bipush (v := (100 : Int32)) (pc' := 124) K at_122 (by decide) rfl ?_
    obtain ⟨v124, ev124⟩ : ∃ z : Int32, z = p2 % (100 : Int32) := ⟨_, rfl⟩
    refine oW.irem (pc' := 125) K at_124 (by decide) ev124 rfl ?_
    obtain ⟨v125, ev125⟩ : ∃ z : UInt64, z = FP.i2d v124 := ⟨_, rfl⟩
    have dv125 : FP.Core.DInt (v124).toInt v125 := oI2D ev125
    refine oW.i2d (pc' := 126) K at_125 ev125 rfl ?_
    refine oW.ldc2D (pc' := 129) K (hw _ (List.mem_of_getElem? (i := 2) rfl)) at_126 rfl ?_
    obtain ⟨v129, ev129⟩ : ∃ z : UInt64, z = FP.dmul v125 (4602678819172646912 : UInt64) := ⟨_, rfl⟩
    have mv129 : oMag 1057 v129 := oMMul (oMI2D ev125) (by unfold oMag Jvm.Free.Fl.Mag64; decide : oMag 1023 _) ev129 (by decide)
    have zv129 := oZv.of (oMNN mv129 (by decide))
    refine oW.dmul (pc' := 130) K at_129 ev129 (oMNN mv129 (by decide)) rfl ?_
    refine oW.dstore (Ls' := #[.val (.int p0), .val (.int p1), .val (.int p2), .val (.ref a2), .val (.int v103), .val (.int (5 : Int32)), .val (.double v129), .second, .unset, .unset]) (pc' := 132) K at_130 rfl rfl ?_
    refine oW.aloadN (pc' := 133) K at_132 rfl rfl rfl ?_
    refine oW.iload (pc' := 135) K at_133 rfl rfl ?_
    refine oW.dload (pc' := 137) K at_135 rfl rfl ?_
    obtain ⟨U, eU⟩ : ∃ z, z = FP.Core.zval FP.Core.b64 (FP.Core.val64 v129) := ⟨_, rfl⟩
    rw [← eU] at zv129
    have zs0 := oZv.int dv21
    obtain ⟨Z0, eZ0⟩ : ∃ z, z = (v14.toInt) * (FP.Core.one64 : Int) := ⟨_, rfl⟩
    rw [← eZ0] at zs0
    have zs1 := oZv.int dv38
    obtain ⟨Z1, eZ1⟩ : ∃ z, z = (v31.toInt) * (FP.Core.one64 : Int) := ⟨_, rfl⟩
    rw [← eZ1] at zs1
    have zs2 := oZv.int dv56
    obtain ⟨Z2, eZ2⟩ : ∃ z, z = (v49.toInt) * (FP.Core.one64 : Int) := ⟨_, rfl⟩
    rw [← eZ2] at zs2
    have zs3 := oZv.int dv74
    obtain ⟨Z3, eZ3⟩ : ∃ z, z = (v67.toInt) * (FP.Core.one64 : Int) := ⟨_, rfl⟩
    rw [← eZ3] at zs3
    have zs4 := oZv.int dv92
    obtain ⟨Z4, eZ4⟩ : ∃ z, z = (v85.toInt) * (FP.Core.one64 : Int) := ⟨_, rfl⟩
    rw [← eZ4] at zs4
    have zs5 := oZv.int dv110
    obtain ⟨Z5, eZ5⟩ : ∃ z, z = (v103.toInt) * (FP.Core.one64 : Int) := ⟨_, rfl⟩
    rw [← eZ5] at zs5
    have mo0 : Z0 ≤ Z1 := by rw [eZ0, eZ1]; exact oZmono (by omega)
    have mo1 : Z1 ≤ Z2 := by rw [eZ1, eZ2]; exact oZmono (by omega)
    have mo2 : Z2 ≤ Z3 := by rw [eZ2, eZ3]; exact oZmono (by omega)
    have mo3 : Z3 ≤ Z4 := by rw [eZ3, eZ4]; exact oZmono (by omega)
    have mo4 : Z4 ≤ Z5 := by rw [eZ4, eZ5]; exact oZmono (by omega)
    refine oW.callS (argsL := [(.ref a2), (.int (5 : Int32)), (.double v129)]) (S := []) (rm := ({ frames := 0, cells := 0, slots := 0, locals := 0 } : Room)) (W := 0) (cells' := 1) (slots' := 6) (pc' := 140) K (hw _ (List.mem_of_getElem? (i := 3) rfl)) (hw _ (List.mem_of_getElem? (i := 4) rfl)) (hw _ (List.mem_of_getElem? (i := 5) rfl)) (hw _ (List.mem_of_getElem? (i := 6) rfl)) (by decide) (own_fa5 hw a2 v129 v21 v38 v56 v74 v92 v110 U Z0 Z1 Z2 Z3 Z4 Z5 zv129 zs0 zs1 zs2 zs3 zs4 zs5 ⟨mo0, mo1, mo2, mo3, mo4⟩) (lenOf pd_0 rfl) at_137 rfl rfl (Nat.le_of_eq rfl) (by decide) (by decide) (by decide) (by decide) rfl rfl rfl ?_
    rintro _ _ ⟨r, rfl, hr, rfl⟩
    refine oW.istore (Ls' := #[.val (.int p0), .val (.int p1), .val (.int p2), .val (.ref a2), .val (.int v103), .val (.int (5 : Int32)), .val (.double v129), .second, .val (.int r), .unset]) (pc' := 142) K at_140 rfl rfl ?_
    refine oW.iload (pc' := 144) K at_142 rfl rfl ?_
    refine oW.istore (Ls' := #[.val (.int p0), .val (.int p1), .val (.int p2), .val (.ref a2), .val (.int v103), .val (.int (5 : Int32)), .val (.double v129), .second, .val (.int r), .val (.int (5 : Int32))]) (pc' := 146) K at_144 rfl rfl ?_
    refine oW.iconst (v := (4 : Int32)) (pc' := 147) K at_146 (by decide) rfl ?_
    refine oW.iload (pc' := 149) K at_147 rfl rfl ?_
    refine oW.icmp_gt (pc' := 164) (pc3 := 152) K at_149 (by decide) (by decide) rfl (fun q => absurd q (by decide)) (fun _ => ?_)
    refine oW.join (F := fun z : Int32 => (U < Z4 ∧ z.toInt = 4) ∨ (¬ U < Z4 ∧ z.toInt = 5)) (pcj := 164) (Lf := fun z => #[.val (.int p0), .val (.int p1), .val (.int p2), .val (.ref a2), .val (.int v103), .val (.int (5 : Int32)), .val (.double v129), .second, .val (.int r), .val (.int z)]) (Sf := fun z => []) (dsf := fun z => [(a2, .inl (.double, [(.double v21), (.double v38), (.double v56), (.double v74), (.double v92), (.double v110)]))]) ?_ ?_
    · intro J
      refine oW.dload (pc' := 154) K at_152 rfl rfl ?_
      refine oW.aloadN (pc' := 155) K at_154 rfl rfl rfl ?_
      refine oW.iconst (v := (4 : Int32)) (pc' := 156) K at_155 (by decide) rfl ?_
      refine oW.daload (i := 0) (k := 4) (pc' := 157) K at_156 rfl rfl (by decide) rfl rfl ?_
      obtain ⟨v157, ev157⟩ : ∃ z : Int32, z = cmpValue (FP.dcmp v129 v92) .g := ⟨_, rfl⟩
      refine oW.dcmp (pc' := 158) K at_157 ev157 rfl ?_
      refine oW.if_ge (pc' := 164) (pc3 := 161) K at_158 (by decide) (by decide) rfl (fun c158 => ?_) (fun c158 => ?_)
      · rw [(oCmpZ zv129 zs4 ev157).1] at c158
        exact J (5 : Int32) (by first | omega | (have oTs' := oTs; omega) | (simp only [Int32.reduceToInt, Int64.reduceToInt]; omega))
      · rw [(oCmpZ zv129 zs4 ev157).1] at c158
        refine oW.iconst (v := (4 : Int32)) (pc' := 162) K at_161 (by decide) rfl ?_
        refine oW.istore (Ls' := #[.val (.int p0), .val (.int p1), .val (.int p2), .val (.ref a2), .val (.int v103), .val (.int (5 : Int32)), .val (.double v129), .second, .val (.int r), .val (.int (4 : Int32))]) (pc' := 164) K at_162 rfl rfl ?_
        exact J (4 : Int32) (by first | omega | (have oTs' := oTs; omega) | (simp only [Int32.reduceToInt, Int64.reduceToInt]; omega))
    intro k4 hk4
    refine oW.iconst (v := (3 : Int32)) (pc' := 165) K at_164 (by decide) rfl ?_
    refine oW.iload (pc' := 167) K at_165 rfl rfl ?_
    refine oW.icmp_gt (pc' := 182) (pc3 := 170) K at_167 (by decide) (by decide) rfl (fun q => absurd q (by decide)) (fun _ => ?_)
    refine oW.join (F := fun z : Int32 => (U < Z3 ∧ z.toInt = 3) ∨ (¬ U < Z3 ∧ z.toInt = k4.toInt)) (pcj := 182) (Lf := fun z => #[.val (.int p0), .val (.int p1), .val (.int p2), .val (.ref a2), .val (.int v103), .val (.int (5 : Int32)), .val (.double v129), .second, .val (.int r), .val (.int z)]) (Sf := fun z => []) (dsf := fun z => [(a2, .inl (.double, [(.double v21), (.double v38), (.double v56), (.double v74), (.double v92), (.double v110)]))]) ?_ ?_
    · intro J
      refine oW.dload (pc' := 172) K at_170 rfl rfl ?_
      refine oW.aloadN (pc' := 173) K at_172 rfl rfl rfl ?_
      refine oW.iconst (v := (3 : Int32)) (pc' := 174) K at_173 (by decide) rfl ?_
      refine oW.daload (i := 0) (k := 3) (pc' := 175) K at_174 rfl rfl (by decide) rfl rfl ?_
      obtain ⟨v175, ev175⟩ : ∃ z : Int32, z = cmpValue (FP.dcmp v129 v74) .g := ⟨_, rfl⟩
      refine oW.dcmp (pc' := 176) K at_175 ev175 rfl ?_
      refine oW.if_ge (pc' := 182) (pc3 := 179) K at_176 (by decide) (by decide) rfl (fun c176 => ?_) (fun c176 => ?_)
      · rw [(oCmpZ zv129 zs3 ev175).1] at c176
        exact J k4 (by first | omega | (have oTs' := oTs; omega) | (simp only [Int32.reduceToInt, Int64.reduceToInt]; omega))
      · rw [(oCmpZ zv129 zs3 ev175).1] at c176
        refine oW.iconst (v := (3 : Int32)) (pc' := 180) K at_179 (by decide) rfl ?_
        refine oW.istore (Ls' := #[.val (.int p0), .val (.int p1), .val (.int p2), .val (.ref a2), .val (.int v103), .val (.int (5 : Int32)), .val (.double v129), .second, .val (.int r), .val (.int (3 : Int32))]) (pc' := 182) K at_180 rfl rfl ?_
        exact J (3 : Int32) (by first | omega | (have oTs' := oTs; omega) | (simp only [Int32.reduceToInt, Int64.reduceToInt]; omega))
    intro k3 hk3
    refine oW.iconst (v := (2 : Int32)) (pc' := 183) K at_182 (by decide) rfl ?_
    refine oW.iload (pc' := 185) K at_183 rfl rfl ?_
    refine oW.icmp_gt (pc' := 200) (pc3 := 188) K at_185 (by decide) (by decide) rfl (fun q => absurd q (by decide)) (fun _ => ?_)
    refine oW.join (F := fun z : Int32 => (U < Z2 ∧ z.toInt = 2) ∨ (¬ U < Z2 ∧ z.toInt = k3.toInt)) (pcj := 200) (Lf := fun z => #[.val (.int p0), .val (.int p1), .val (.int p2), .val (.ref a2), .val (.int v103), .val (.int (5 : Int32)), .val (.double v129), .second, .val (.int r), .val (.int z)]) (Sf := fun z => []) (dsf := fun z => [(a2, .inl (.double, [(.double v21), (.double v38), (.double v56), (.double v74), (.double v92), (.double v110)]))]) ?_ ?_
    · intro J
      refine oW.dload (pc' := 190) K at_188 rfl rfl ?_
      refine oW.aloadN (pc' := 191) K at_190 rfl rfl rfl ?_
      refine oW.iconst (v := (2 : Int32)) (pc' := 192) K at_191 (by decide) rfl ?_
      refine oW.daload (i := 0) (k := 2) (pc' := 193) K at_192 rfl rfl (by decide) rfl rfl ?_
      obtain ⟨v193, ev193⟩ : ∃ z : Int32, z = cmpValue (FP.dcmp v129 v56) .g := ⟨_, rfl⟩
      refine oW.dcmp (pc' := 194) K at_193 ev193 rfl ?_
      refine oW.if_ge (pc' := 200) (pc3 := 197) K at_194 (by decide) (by decide) rfl (fun c194 => ?_) (fun c194 => ?_)
      · rw [(oCmpZ zv129 zs2 ev193).1] at c194
        exact J k3 (by first | omega | (have oTs' := oTs; omega) | (simp only [Int32.reduceToInt, Int64.reduceToInt]; omega))
      · rw [(oCmpZ zv129 zs2 ev193).1] at c194
        refine oW.iconst (v := (2 : Int32)) (pc' := 198) K at_197 (by decide) rfl ?_
        refine oW.istore (Ls' := #[.val (.int p0), .val (.int p1), .val (.int p2), .val (.ref a2), .val (.int v103), .val (.int (5 : Int32)), .val (.double v129), .second, .val (.int r), .val (.int (2 : Int32))]) (pc' := 200) K at_198 rfl rfl ?_
        exact J (2 : Int32) (by first | omega | (have oTs' := oTs; omega) | (simp only [Int32.reduceToInt, Int64.reduceToInt]; omega))
    intro k2 hk2
    refine oW.iconst (v := (1 : Int32)) (pc' := 201) K at_200 (by decide) rfl ?_
    refine oW.iload (pc' := 203) K at_201 rfl rfl ?_
    refine oW.icmp_gt (pc' := 218) (pc3 := 206) K at_203 (by decide) (by decide) rfl (fun q => absurd q (by decide)) (fun _ => ?_)
    refine oW.join (F := fun z : Int32 => (U < Z1 ∧ z.toInt = 1) ∨ (¬ U < Z1 ∧ z.toInt = k2.toInt)) (pcj := 218) (Lf := fun z => #[.val (.int p0), .val (.int p1), .val (.int p2), .val (.ref a2), .val (.int v103), .val (.int (5 : Int32)), .val (.double v129), .second, .val (.int r), .val (.int z)]) (Sf := fun z => []) (dsf := fun z => [(a2, .inl (.double, [(.double v21), (.double v38), (.double v56), (.double v74), (.double v92), (.double v110)]))]) ?_ ?_
    · intro J
      refine oW.dload (pc' := 208) K at_206 rfl rfl ?_
      refine oW.aloadN (pc' := 209) K at_208 rfl rfl rfl ?_
      refine oW.iconst (v := (1 : Int32)) (pc' := 210) K at_209 (by decide) rfl ?_
      refine oW.daload (i := 0) (k := 1) (pc' := 211) K at_210 rfl rfl (by decide) rfl rfl ?_
      obtain ⟨v211, ev211⟩ : ∃ z : Int32, z = cmpValue (FP.dcmp v129 v38) .g := ⟨_, rfl⟩
      refine oW.dcmp (pc' := 212) K at_211 ev211 rfl ?_
      refine oW.if_ge (pc' := 218) (pc3 := 215) K at_212 (by decide) (by decide) rfl (fun c212 => ?_) (fun c212 => ?_)
      · rw [(oCmpZ zv129 zs1 ev211).1] at c212
        exact J k2 (by first | omega | (have oTs' := oTs; omega) | (simp only [Int32.reduceToInt, Int64.reduceToInt]; omega))
      · rw [(oCmpZ zv129 zs1 ev211).1] at c212
        refine oW.iconst (v := (1 : Int32)) (pc' := 216) K at_215 (by decide) rfl ?_
        refine oW.istore (Ls' := #[.val (.int p0), .val (.int p1), .val (.int p2), .val (.ref a2), .val (.int v103), .val (.int (5 : Int32)), .val (.double v129), .second, .val (.int r), .val (.int (1 : Int32))]) (pc' := 218) K at_216 rfl rfl ?_
        exact J (1 : Int32) (by first | omega | (have oTs' := oTs; omega) | (simp only [Int32.reduceToInt, Int64.reduceToInt]; omega))
    intro k1 hk1
    refine oW.join (F := fun z : Int32 => (U < Z0 ∧ z.toInt = 0) ∨ (¬ U < Z0 ∧ z.toInt = k1.toInt)) (pcj := 230) (Lf := fun z => #[.val (.int p0), .val (.int p1), .val (.int p2), .val (.ref a2), .val (.int v103), .val (.int (5 : Int32)), .val (.double v129), .second, .val (.int r), .val (.int z)]) (Sf := fun z => []) (dsf := fun z => [(a2, .inl (.double, [(.double v21), (.double v38), (.double v56), (.double v74), (.double v92), (.double v110)]))]) ?_ ?_
    · intro J
      refine oW.dload (pc' := 220) K at_218 rfl rfl ?_
      refine oW.aloadN (pc' := 221) K at_220 rfl rfl rfl ?_
      refine oW.iconst (v := (0 : Int32)) (pc' := 222) K at_221 (by decide) rfl ?_
      refine oW.daload (i := 0) (k := 0) (pc' := 223) K at_222 rfl rfl (by decide) rfl rfl ?_
      obtain ⟨v223, ev223⟩ : ∃ z : Int32, z = cmpValue (FP.dcmp v129 v21) .g := ⟨_, rfl⟩
      refine oW.dcmp (pc' := 224) K at_223 ev223 rfl ?_
      refine oW.if_ge (pc' := 230) (pc3 := 227) K at_224 (by decide) (by decide) rfl (fun c224 => ?_) (fun c224 => ?_)
      · rw [(oCmpZ zv129 zs0 ev223).1] at c224
        exact J k1 (by first | omega | (have oTs' := oTs; omega) | (simp only [Int32.reduceToInt, Int64.reduceToInt]; omega))
      · rw [(oCmpZ zv129 zs0 ev223).1] at c224
        refine oW.iconst (v := (0 : Int32)) (pc' := 228) K at_227 (by decide) rfl ?_
        refine oW.istore (Ls' := #[.val (.int p0), .val (.int p1), .val (.int p2), .val (.ref a2), .val (.int v103), .val (.int (5 : Int32)), .val (.double v129), .second, .val (.int r), .val (.int (0 : Int32))]) (pc' := 230) K at_228 rfl rfl ?_
        exact J (0 : Int32) (by first | omega | (have oTs' := oTs; omega) | (simp only [Int32.reduceToInt, Int64.reduceToInt]; omega))
    intro k0 hk0
    refine oW.iload (pc' := 232) K at_230 rfl rfl ?_
    refine oW.iload (pc' := 234) K at_232 rfl rfl ?_
    refine oW.icmp_ne (pc' := 241) (pc3 := 237) K at_234 (by decide) (by decide) rfl (fun q => absurd (oEq32.mpr (by first | omega | (have oTs' := oTs; omega) | (simp only [Int32.reduceToInt, Int64.reduceToInt]; omega))) q) (fun c234 => ?_)
    refine oW.iconst (v := (1 : Int32)) (pc' := 238) K at_237 (by decide) rfl ?_
    refine oW.goto (pc' := 242) K at_238 (by decide) (by decide) ?_
    exact oW.retB K rfl at_242 (by decide) (by decide) ⟨_, rfl, rfl⟩
set_option maxRecDepth 65536 in
set_option maxHeartbeats 40000000 in
theorem comes_1 {Post : Tables → Env → Array Value → State → Outcome → State → Prop} (hpost : ∀ tb e args s v u, (limb_1_1.after args s (.returned v) u = true ∧ limb_1_2.after args s (.returned v) u = true ∧ True) → FrameEnd s (.returned v) u (Jvm.fieldLocs frame_1_writes args s ++ Jvm.arrayLocs frame_1_arrays args s ++ Jvm.staticLocs frame_1_statics s) 16 128 → Post tb e args s (.returned v) u) :
    ArmFor flags0 classFile x code maxLocals ret World_1 tables_1 room_1 Calls_1 rest_1 Pre_1 Post := by
  intro l hfl _ _ p e ha hc hk s m args below hf hA hF happ hP
  obtain ⟨hcalls, hrest, hpre⟩ := hP
  obtain ⟨-, -, -, hnamed, -, -, -, hat⟩ := (Spec.applies_iff hf).mp happ
  obtain ⟨hg, hn⟩ := and_e (Cond.before_iff.mp (show (Jvm.Cond.and given_1 narrow_1).before args s = true from hpre))
  obtain ⟨hcount, g0⟩ := and_e hg
  obtain ⟨k0, g1⟩ := and_e g0
  obtain ⟨k1, g2⟩ := and_e g1
  obtain ⟨w0, w1, w2, rfl⟩ : ∃ w0 w1 w2 : Value, args = #[w0, w1, w2] := by
    have hs : args.size = 3 := by simpa [Cond.value, given_1] using hcount
    obtain ⟨L⟩ := args
    match L, hs with
    | [w0, w1, w2], _ => exact ⟨w0, w1, w2, rfl⟩
  have hw := fun d (hd : d ∈ tables_1) => atoms_spec (ws := Jvm.Cond.code x code maxLocals ret :: tables_1) hat d (List.mem_cons_of_mem _ hd)
  obtain ⟨i0, ei0⟩ := is_v k0
  obtain rfl : w0 = (.int i0) := Option.some.inj ei0
  obtain ⟨i1, ei1⟩ := is_v k1
  obtain rfl : w1 = (.int i1) := Option.some.inj ei1
  obtain ⟨i2, ei2⟩ := is_v g2
  obtain rfl : w2 = (.int i2) := Option.some.inj ei2
  obtain ⟨n, o, h1, h2, h3, _, L, rfl, ⟨N, _, ⟨_, rfl, rfl⟩, _⟩, hq⟩ := (own_law (l := l) (h0 := s.heap) hw i0 i1 i2) s.heap (oMem.start s s.heap) p e ha hc hk s m _ below hf ((Spec.applies_iff_loose hf).mp happ).1 ⟨rfl, State.Warmed39.refl s, rfl⟩ trivial
  refine ⟨n, _, h1, h2, h3, hpost _ _ _ _ _ _ ⟨Cond.after_iff.mpr rfl, Cond.after_iff.mpr (eq_i res_at (Term.int_eval (1)) rfl), trivial⟩ ⟨hq.1, hq.2.1, (hq.2.2.sift fun y hy => Or.inr (N y hy)).mono (by decide) (by decide)⟩⟩
theorem main_1_1 : Claimed_1_1 := comes_1 fun _ _ _ _ _ _ h hF => ⟨h.1, hF⟩
theorem main_1_2 : Claimed_1_2 := comes_1 fun _ _ _ _ _ _ h hF => ⟨h.2.1, hF⟩
end Jvm.Pilot.@@N@@
namespace Jvm.Pilot.@@N@@
open Jvm Jvm.ClassFile Sem Op Lib Jvm.Free Jvm.Stand Jvm.Pilot.@@N@@.Jvm.D
/-! MADE BY PROGRAM (witnessworld.py) out of the Statement's table words and the real class files: 11 classes; the members and pool entries that the words name. The judged class is class 1, her method 1. -/
namespace start1
open Jvm.ClassFile
def u (s : String) : CpInfo := .utf8 (stringToUtf16 s)
/-- a pool by its gaps: so many unusable entries, then the entry; so many at the end -/
def gap : Nat → List CpInfo → List CpInfo
  | 0, r => r
  | n + 1, r => .unusable :: gap n r
def poolList (es : List (Nat × CpInfo)) (last : Nat) : List CpInfo := es.foldr (fun e r => gap e.1 (e.2 :: r)) (gap last [])
def pool (es : List (Nat × CpInfo)) (last : Nat) : Array CpInfo := ⟨poolList es last⟩
def fileOf (pool : Array CpInfo) (this : Nat) (attrs : Array Attribute := #[]) (ms : Array MethodInfo := #[]) (fl : Nat := 33) (sup : Nat := 0) (ifs : Array Nat := #[]) (fds : Array FieldInfo := #[]) : ClassFile where
  minorVersion := 0
  majorVersion := 65
  constantPool := pool
  accessFlags := fl
  thisClass := this
  superClass := sup
  interfaces := ifs
  fields := fds
  methods := ms
  attributes := attrs
def plain (name : String) (sup : Option ClassId) : Class where
  name := name
  kind := .ordinary
  loader := none
  accessFlags := 33
  super := sup
  interfaces := #[]
  cf := none
  fields := #[]
  methods := #[]
  instanceTypes := #[]
  staticTypes := #[]
  resolved := #[]
  callSites := []
  init := .initialized
  statics := none
  mirror := none

def pool0 : Array CpInfo := pool [(5, u "<init>"), (0, u "()V"), (1, .class_ 10), (1, u "java/lang/Object")] 113

def k0m0 : Method := { name := "<init>", desc := "()V", sig := { parameters := [], returnType := none }, accessFlags := 1, code := none }
/-- java/lang/Object -/
def k0 : Class := { plain "java/lang/Object" none with
  accessFlags := 33
  interfaces := #[]
  cf := some (fileOf pool0 8 #[] #[{ accessFlags := 1, nameIndex := 5, descriptorIndex := 6, attributes := #[] }] 33 0 #[] #[])
  fields := #[]
  methods := #[k0m0]
  instanceTypes := #[]
  staticTypes := #[]
  resolved := Array.replicate 124 none
  statics := none }

def pool1 : Array CpInfo := pool [(2, .class_ 4), (1, u "java/lang/Object"), (0, u "<init>"), (0, u "()V"), (0, .integer 2147483647), (0, .double 4602678819172646912), (1, .methodref 11 12), (0, .class_ 13), (0, .nameAndType 14 15), (0, u "com/example/careful_perplexity/carefulperplexity/RunningSums"), (0, u "firstAbove"), (0, u "([DID)I"), (0, .class_ 17), (0, u "com/example/careful_perplexity/carefulperplexity/RunningSumsFirstAbovePinLaw"), (2, u "law"), (0, u "(III)Z")] 5

def k1m0 : Method := { name := "<init>", desc := "()V", sig := { parameters := [], returnType := none }, accessFlags := 2, code := none }
def k1c1 : Code := { maxStack := 4, maxLocals := 10, code := code, exceptionTable := #[], attributes := #[] }
def k1m1 : Method := { name := "law", desc := "(III)Z", sig := { parameters := [.int, .int, .int], returnType := some .boolean }, accessFlags := 9, code := some k1c1 }
/-- com/example/careful_perplexity/carefulperplexity/RunningSumsFirstAbovePinLaw -/
def k1 : Class := { plain "com/example/careful_perplexity/carefulperplexity/RunningSumsFirstAbovePinLaw" (some 0) with
  accessFlags := 49
  interfaces := #[]
  cf := some (fileOf pool1 16 #[] #[{ accessFlags := 2, nameIndex := 5, descriptorIndex := 6, attributes := #[] }, { accessFlags := 9, nameIndex := 20, descriptorIndex := 21, attributes := #[] }] 49 2 #[] #[])
  fields := #[]
  methods := #[k1m0, k1m1]
  instanceTypes := #[]
  staticTypes := #[]
  resolved := Array.replicate 27 none
  statics := none }

def pool2 : Array CpInfo := pool [(2, .class_ 4), (1, u "java/lang/Object"), (0, u "<init>"), (0, u "()V"), (7, .class_ 16), (1, u "com/example/careful_perplexity/carefulperplexity/RunningSums"), (0, u "firstAbove"), (0, u "([DID)I")] 13

def k2m0 : Method := { name := "<init>", desc := "()V", sig := { parameters := [], returnType := none }, accessFlags := 2, code := none }
def k2c1 : Code := { maxStack := 4, maxLocals := 7, code := prog_79_method_4_code, exceptionTable := #[], attributes := #[] }
def k2m1 : Method := { name := "firstAbove", desc := "([DID)I", sig := { parameters := [(.array .double), .int, .double], returnType := some .int }, accessFlags := 8, code := some k2c1 }
/-- com/example/careful_perplexity/carefulperplexity/RunningSums -/
def k2 : Class := { plain "com/example/careful_perplexity/carefulperplexity/RunningSums" (some 0) with
  accessFlags := 48
  interfaces := #[]
  cf := some (fileOf pool2 14 #[] #[{ accessFlags := 2, nameIndex := 5, descriptorIndex := 6, attributes := #[] }, { accessFlags := 8, nameIndex := 17, descriptorIndex := 18, attributes := #[] }] 48 2 #[] #[])
  fields := #[]
  methods := #[k2m0, k2m1]
  instanceTypes := #[]
  staticTypes := #[]
  resolved := Array.replicate 32 none
  statics := none }

def pool3 : Array CpInfo := pool [(1, u "java/lang/Cloneable"), (0, .class_ 1), (0, u "java/lang/Object"), (0, .class_ 3)] 3

/-- java/lang/Cloneable -/
def k3 : Class := { plain "java/lang/Cloneable" (some 0) with
  accessFlags := 1537
  interfaces := #[]
  cf := some (fileOf pool3 2 #[] #[] 1537 4 #[] #[])
  fields := #[]
  methods := #[]
  instanceTypes := #[]
  staticTypes := #[]
  resolved := Array.replicate 8 none
  statics := none }

def pool4 : Array CpInfo := pool [(1, u "java/io/Serializable"), (0, .class_ 1), (0, u "java/lang/Object"), (0, .class_ 3)] 3

/-- java/io/Serializable -/
def k4 : Class := { plain "java/io/Serializable" (some 0) with
  accessFlags := 1537
  interfaces := #[]
  cf := some (fileOf pool4 2 #[] #[] 1537 4 #[] #[])
  fields := #[]
  methods := #[]
  instanceTypes := #[]
  staticTypes := #[]
  resolved := Array.replicate 8 none
  statics := none }

/-- the primitive byte -/
def k5 : Class := { plain "byte" none with kind := .primitive 'B', accessFlags := 0x411 }
/-- [B -/
def k6 : Class := { plain "[B" (some 0) with kind := .array 5 .byte, interfaces := #[3, 4], accessFlags := 1041 }

/-- the primitive double -/
def k7 : Class := { plain "double" none with kind := .primitive 'D', accessFlags := 0x411 }
/-- [D -/
def k8 : Class := { plain "[D" (some 0) with kind := .array 7 .double, interfaces := #[3, 4], accessFlags := 1041 }

/-- the primitive int -/
def k9 : Class := { plain "int" none with kind := .primitive 'I', accessFlags := 0x411 }
/-- [I -/
def k10 : Class := { plain "[I" (some 0) with kind := .array 9 .int, interfaces := #[3, 4], accessFlags := 1041 }

def heap : Heap := #[]
def classes : Array Class := #[k0, k1, k2, k3, k4, k5, k6, k7, k8, k9, k10]
def interned : List (Array UInt16 × Addr) := []
def slotsUsed : Nat := 0
def theMethod : MethodId := ⟨1, 1⟩
def args0 : Array Value := #[.int 3, .int 4, .int 5]
def aboutOver (below : List Frame) : State where
  vm := { classes := classes, interned := interned.toArray }
  heap := heap
  slotsUsed := slotsUsed
  threads := #[{ frames := .invoking theMethod args0 :: below }]
def below0 : List Frame := [.native { method := ⟨0, 0⟩, args := #[] }]
def about1 : State := aboutOver below0
def p0 : Program := .bare "" "" ""
def e0 : Env := launch0.env 0 0 0
theorem w_frames : about1.frames = Frame.invoking theMethod args0 :: below0 := rfl
set_option maxRecDepth 65536 in
theorem w_args : argsFit about1.vm theMethod args0 = true := by decide +kernel
set_option maxRecDepth 65536 in
theorem w_heap : heapFits about1 = true := by decide +kernel
set_option maxRecDepth 65536 in
theorem w_runnable : about1.curStatus? = some .runnable := by decide +kernel
set_option maxRecDepth 65536 in
theorem w_alone : about1.alone = true := by decide +kernel
set_option maxRecDepth 65536 in
theorem w_named : about1.methodNamed? x = some theMethod := by decide +kernel
set_option maxRecDepth 65536 in
theorem w_hears : about1.hears theMethod below0 = true := by decide +kernel
set_option maxRecDepth 65536 in
theorem w_ripe : about1.ripe theMethod args0 below0 = true := by decide +kernel
theorem w_running : about1.status = .running := rfl
set_option maxRecDepth 65536 in
theorem w_room : about1.hasRoom e0.platform room_1 = true :=
  launch0.hasRoom_least _ room_1 (by decide +kernel) (by decide +kernel) (by decide +kernel) (by decide +kernel) (by decide +kernel) (by decide +kernel)
theorem allAtoms_all (ts : List Jvm.Cond) (a : Array Jvm.Value) (st : Jvm.State) : (allAtoms ts).before a st = ts.all (fun c => c.before a st) := by
  induction ts with
  | nil => rfl
  | cons c t ih =>
    show (Jvm.Cond.and c (allAtoms t)).before a st = _
    rw [Jvm.Cond.before_and, ih, List.all_cons]
def words1 : List Jvm.Cond := Jvm.Cond.code x code maxLocals ret :: tables_1
/-- a 'code' word, met by the world's own term for the bytes: nothing is compared byte by byte -/
theorem code_word {y : MethodName} {bytes : ByteArray} {mx : Nat} {rt : Option FieldType} {a : Array Value} {s : State} {m : MethodId} {meth : Method} {c : Code} (h1 : s.methodNamed? y = some m) (h2 : s.vm.method? m = some meth) (h3 : meth.code = some c) (h4 : c.code = bytes)
    (h5 : (c.maxLocals == mx && c.exceptionTable.isEmpty && decide (c.maxStack ≤ mostOperands) && decide (meth.sig.returnType = rt) && !meth.locks && decide (parseMethodDescriptor y.desc = some meth.sig)) = true) : (Jvm.Cond.code y bytes mx rt).before a s = true := by
  simp only [Bool.and_eq_true, beq_iff_eq, Bool.not_eq_true', decide_eq_true_eq] at h5
  obtain ⟨⟨⟨⟨⟨g1, g2⟩, g3⟩, g4⟩, g5⟩, g6⟩ := h5
  simp [Cond.before, Cond.holds, Cond.value, h1, h2, h3, h4, g1, g2, g3, g4, g5, g6]
def isCode : Jvm.Cond → Bool
  | .code _ _ _ _ => true
  | _ => false
theorem all_split {L : List Jvm.Cond} {P : Jvm.Cond → Bool} (h1 : L.all (fun c => isCode c || P c) = true) (h2 : ∀ c ∈ L.filter isCode, P c = true) : L.all P = true := by
  refine List.all_eq_true.mpr fun c hc => ?_
  have h := List.all_eq_true.mp h1 c hc
  rcases Bool.eq_false_or_eq_true (isCode c) with hi | hi
  · exact h2 c (List.mem_filter.mpr ⟨hc, hi⟩)
  · simpa [hi] using h
set_option maxRecDepth 65536 in
theorem w_c0 : (Jvm.Cond.code x code maxLocals ret).before args0 about1 = true := code_word (m := ⟨1, 1⟩) (meth := k1m1) (c := k1c1) (by decide +kernel) rfl rfl rfl (by decide +kernel)
set_option maxRecDepth 65536 in
theorem w_c1 : (Jvm.Cond.code ({ cls := "com/example/careful_perplexity/carefulperplexity/RunningSums", name := "firstAbove", desc := "([DID)I" } : Jvm.MethodName) prog_79_method_4_code (7 : Nat) (Option.some Jvm.ClassFile.FieldType.int)).before args0 about1 = true := code_word (m := ⟨2, 1⟩) (meth := k2m1) (c := k2c1) (by decide +kernel) rfl rfl rfl (by decide +kernel)
def codes1 : List Jvm.Cond := [Jvm.Cond.code x code maxLocals ret, Jvm.Cond.code ({ cls := "com/example/careful_perplexity/carefulperplexity/RunningSums", name := "firstAbove", desc := "([DID)I" } : Jvm.MethodName) prog_79_method_4_code (7 : Nat) (Option.some Jvm.ClassFile.FieldType.int)]
set_option maxRecDepth 65536 in
theorem codes_eq : words1.filter isCode = codes1 := rfl
theorem w_codes : ∀ c ∈ words1.filter isCode, c.before args0 about1 = true := by
  rw [codes_eq]
  intro c hc
  simp only [codes1, List.mem_cons, List.not_mem_nil, or_false] at hc
  rcases hc with rfl | rfl
  · exact w_c0
  · exact w_c1
set_option maxRecDepth 65536 in
theorem w_t1 : words1.all (fun c => isCode c || c.before args0 about1) = true := by decide +kernel
theorem w_tables : (allAtoms (Jvm.Cond.code x code maxLocals ret :: tables_1)).before args0 about1 = true := by
  rw [allAtoms_all]
  show words1.all (fun c => c.before args0 about1) = true
  refine all_split ?_ w_codes
  rw [w_t1]
set_option maxRecDepth 65536 in
theorem w_case : (Jvm.Cond.and given_1 narrow_1).before args0 about1 = true := by decide +kernel
theorem w_applies : (headSpec (Jvm.Cond.code x code maxLocals ret :: tables_1) room_1).applies x e0.platform about1 = true :=
  (Spec.applies_iff w_frames).mpr ⟨w_running, w_runnable, w_alone, w_named, w_hears, w_ripe, w_room, w_tables⟩
theorem atStart : AtStart classFile x code maxLocals ret World_1 tables_1 room_1 Calls_1 rest_1 Pre_1 launch0 p0 e0 about1 theMethod args0 below0 :=
  ⟨lists_1, trivial, launch0.admits_env _ _ _, launch0.least_env, fairChoices_fair.cas, fairChoices_fair.clock, w_frames, w_args, w_heap, w_applies, trivial, trivial, w_case⟩
end start1
theorem witness_1 : WitnessClaimed_1 := ⟨start1.p0, start1.e0, start1.about1, start1.theMethod, start1.args0, start1.below0, start1.atStart⟩
end Jvm.Pilot.@@N@@
