import JvmDerived
import JvmDerived.Pilot.@@N@@Statement
import JvmDerived.Pilot.@@N@@Code
set_option linter.unusedVariables false
set_option linter.unusedSimpArgs false
namespace Jvm.Pilot.@@N@@
open Jvm Jvm.ClassFile Sem Op Lib Jvm.Free Jvm.Stand Jvm.LawKit Jvm.RoadKit Bundle Jvm.Pilot.@@N@@.Jvm.D
/-! OWN PRELUDE. What the walk knows of the objects that it made: a list of (address, what stands there): an array with its components, or an object with its fields. -/
abbrev oDsc : Type := Sum (FieldType × List Value) (String × List (String × String × String × Value))
abbrev oDs : Type := List (Addr × oDsc)
def oAt (Z : State) (h : Heap) (a : Addr) (d : oDsc) : Prop := match d with
  | .inl (ty, vs) => ∃ c : Cell, Arr Z h a c ty ∧ c.slots = vs.toArray
  | .inr (C, fs) => Exa Z h a C ∧ ∀ f ∈ fs, Fld Z h a f.1 f.2.1 f.2.2.1 f.2.2.2
def oMem (Z : State) (h0 h : Heap) (ds : oDs) : Prop :=
  Ext h0 h ∧ (∀ (i j : Nat) (x y : Addr × oDsc), i < j → ds[i]? = some x → ds[j]? = some y → x.1 < y.1) ∧ ∀ (i : Nat) (x : Addr × oDsc), ds[i]? = some x → h0.size ≤ x.1 ∧ oAt Z h x.1 x.2
theorem oExt_refl (h : Heap) : Ext h h := ⟨Nat.le_refl _, fun _ _ q => q⟩
theorem oMem.start (Z : State) (h : Heap) : oMem Z h h [] := ⟨oExt_refl h, fun _ _ _ _ _ q => by simp at q, fun _ _ q => by simp at q⟩
theorem oAt.lt {Z : State} {h : Heap} {a : Addr} {d : oDsc} (A : oAt Z h a d) : a < h.size := by
  rcases d with ⟨ty, vs⟩ | ⟨C, fs⟩
  · obtain ⟨c, A, -⟩ := A; exact A.lt
  · exact A.1.lt
theorem oAt.ext {Z : State} {h h' : Heap} {a : Addr} {d : oDsc} (A : oAt Z h a d) (E : Ext h h') : oAt Z h' a d := by
  rcases d with ⟨ty, vs⟩ | ⟨C, fs⟩
  · obtain ⟨c, A, q⟩ := A; exact ⟨c, A.ext E, q⟩
  · exact ⟨A.1.ext E, fun f hf => (A.2 f hf).ext E⟩
theorem oAt.other {Z : State} {h h' : Heap} {a b : Addr} {sl : Nat} {v : Value} {d : oDsc} (A : oAt Z h b d) (W : Wr h h' a sl v) (q : b ≠ a) : oAt Z h' b d := by
  rcases d with ⟨ty, vs⟩ | ⟨C, fs⟩
  · obtain ⟨c, A, r⟩ := A; exact ⟨c, A.other W q, r⟩
  · exact ⟨A.1.wr W, fun f hf => (A.2 f hf).other W (Or.inl q)⟩
theorem oMem.push {Z : State} {h0 h h' : Heap} {ds : oDs} {d : oDsc} (M : oMem Z h0 h ds) (E : Ext h h') (A : oAt Z h' h.size d) : oMem Z h0 h' (ds ++ [(h.size, d)]) := by
  obtain ⟨M1, M2, M3⟩ := M
  refine ⟨⟨Nat.le_trans M1.1 E.1, fun a c q => E.2 a c (M1.2 a c q)⟩, fun i j x y hij hi hj => ?_, fun i x hi => ?_⟩
  · rw [List.getElem?_append] at hi hj
    split at hj
    · rw [if_pos (by omega)] at hi; exact M2 i j x y hij hi hj
    · rename_i nj
      have hjl : j - ds.length = 0 := by
        rcases Nat.eq_zero_or_pos (j - ds.length) with q | q
        · exact q
        · rw [List.getElem?_eq_none (by simp; omega)] at hj; cases hj
      rw [hjl] at hj; cases hj
      rw [if_pos (by omega)] at hi
      exact (M3 i x hi).2.lt
  · rw [List.getElem?_append] at hi
    split at hi
    · exact ⟨(M3 i x hi).1, (M3 i x hi).2.ext E⟩
    · rename_i ni
      have hil : i - ds.length = 0 := by
        rcases Nat.eq_zero_or_pos (i - ds.length) with q | q
        · exact q
        · rw [List.getElem?_eq_none (by simp; omega)] at hi; cases hi
      rw [hil] at hi; cases hi
      exact ⟨M1.1, A⟩
theorem oMem.put {Z : State} {h0 h h' : Heap} {ds : oDs} {i : Nat} {a : Addr} {d d' : oDsc} {sl : Nat} {v : Value} (M : oMem Z h0 h ds) (hi : ds[i]? = some (a, d)) (W : Wr h h' a sl v) (A : oAt Z h' a d') : oMem Z h0 h' (ds.set i (a, d')) := by
  obtain ⟨M1, M2, M3⟩ := M
  have ha := (M3 i _ hi).1
  have hlt : i < ds.length := (List.getElem?_eq_some_iff.mp hi).1
  have fst : ∀ (j : Nat) (x : Addr × oDsc), (ds.set i (a, d'))[j]? = some x → ∃ y : Addr × oDsc, ds[j]? = some y ∧ y.1 = x.1 := fun j x hx => by
    rw [List.getElem?_set] at hx
    split at hx
    · rename_i e; subst e; cases hx; exact ⟨_, hi, rfl⟩
    · exact ⟨x, hx, rfl⟩
  refine ⟨⟨Nat.le_trans M1.1 (Nat.le_of_eq W.size.symm), fun x c q => ?_⟩, fun j k x y hjk hj hk => ?_, fun j x hx => ?_⟩
  · obtain ⟨c', q1, -, -, -, q5, -⟩ := wr_at W (M1.2 x c q)
    have : x ≠ a := Nat.ne_of_lt (Nat.lt_of_lt_of_le (Array.getElem?_eq_some_iff.mp q).1 ha)
    rw [← q5 this]; exact q1
  · obtain ⟨x', hx', ex⟩ := fst j x hj
    obtain ⟨y', hy', ey⟩ := fst k y hk
    rw [← ex, ← ey]; exact M2 j k x' y' hjk hx' hy'
  · rw [List.getElem?_set] at hx
    split at hx
    · rename_i e; subst e; cases hx; exact ⟨ha, A⟩
    · rename_i e
      refine ⟨(M3 j x hx).1, (M3 j x hx).2.other W fun q => ?_⟩
      rcases Nat.lt_or_gt_of_ne e with r | r
      · have := M2 i j _ _ r hi hx; rw [q] at this; exact Nat.lt_irrefl _ this
      · have := M2 j i _ _ r hx hi; rw [q] at this; exact Nat.lt_irrefl _ this
/-- the fields' places are unlike -/
def oApart (Z : State) (fs : List (String × String × String × Value)) : Prop :=
  ∀ (i j : Nat) (f g : String × String × String × Value), i ≠ j → fs[i]? = some f → fs[j]? = some g → Jvm.RoadKit.slotOf Z f.1 f.2.1 f.2.2.1 ≠ Jvm.RoadKit.slotOf Z g.1 g.2.1 g.2.2.1
theorem oApart.of {Z : State} {a0 : Array Value} {C : String} {fs : List (String × String × String × Value)} (hL : ∀ f ∈ fs, Laid Z a0 C f.1 f.2.1 f.2.2.1 ∧ ∃ t, parseFieldDescriptor f.2.2.1 = some t) (hn : (fs.map fun f => f.2.1).Nodup) : oApart Z fs := fun i j f g hij hi hj => by
  obtain ⟨L1, t1, p1⟩ := hL f (List.mem_of_getElem? hi)
  obtain ⟨L2, t2, p2⟩ := hL g (List.mem_of_getElem? hj)
  refine slot_ne L1 L2 (fun q => hij ?_) p1 p2
  have e1 : (fs.map fun f => f.2.1)[i]? = some f.2.1 := by rw [List.getElem?_map, hi]; rfl
  have e2 : (fs.map fun f => f.2.1)[j]? = some g.2.1 := by rw [List.getElem?_map, hj]; rfl
  rw [q] at e1
  have l1 := (List.getElem?_eq_some_iff.mp e1).1
  exact (List.getElem?_inj l1 hn).mp (e1.trans e2.symm)
/-- what a walk's texts share: the machine, the tables, the body's bytes, its class, its result's type, its name -/
def oK (p : Program) (s : State) (m : MethodId) (meth : Method) (c : Code) (Z : State) (own : String) (by0 : ByteArray) (ml : Nat) (ret : Option FieldType) (nm : String) : Prop :=
  (p.tables.exec = Jvm.exec ∧ Z.Warmed39 s.vm ∧ c.code = by0 ∧ c.maxLocals = ml) ∧ s.vm.findClass own = some m.cls ∧ meth.sig.returnType = ret ∧ meth.locks = false ∧ meth.name = nm
/-- the walk stands at T, knows ds of what it made, and has booked cells and slots -/
def oIn (p : Program) (l : Launch) (e : Env) (R : Room) (s : State) (m : MethodId) (args : Array Value) (below : List Frame) (meth : Method) (c : Code) (Z : State) (h0 : Heap) (T : State) (ds : oDs) (cells slots : Nat) : Prop :=
  ∃ locs, Stand p l e R s m args below meth c T locs cells slots ∧ Fr h0.size locs ∧ oMem Z h0 T.heap ds
/-- the run from T with the frame g returns, and P holds of what it returns and of what it leaves -/
def oEnds (p : Program) (e : Env) (R : Room) (s : State) (below : List Frame) (Z : State) (h0 : Heap) (P : Option Value → oDs → Prop) (T : State) (g : JFrame) : Prop :=
  ∃ s₂ o, Steps p.tables e below (T.setTop g) s₂ ∧ s₂.status = .running ∧ Ended s₂ below o ∧ ∃ v L, o = .returned v ∧ (Fr h0.size L ∧ ∃ ds', P v ds' ∧ oMem Z h0 s₂.heap ds') ∧ FrameEnd s o s₂ L R.cells R.slots
/-- from every state that knows ds, at pc with these locals and this stack, the body returns as P says -/
def oW (p : Program) (l : Launch) (e : Env) (R : Room) (s : State) (m : MethodId) (args : Array Value) (below : List Frame) (meth : Method) (c : Code) (Z : State) (h0 : Heap) (P : Option Value → oDs → Prop) (ds : oDs) (cells slots pc : Nat) (Ls : Array Slot) (S : List Value) : Prop :=
  ∀ T, oIn p l e R s m args below meth c Z h0 T ds cells slots → oEnds p e R s below Z h0 P T (mkF m pc Ls S)
/-- a body's contract: called with as' where the objects made are ds, it returns as P says, within the room rm -/
def oCtr (l : Launch) (Z : State) (h0 : Heap) (ws : List Jvm.Cond) (y : MethodName) (by0 : ByteArray) (ml : Nat) (ret : Option FieldType) (rm : Room) (as' : Array Value) (ds : oDs) (P : Option Value → oDs → Prop) : Prop :=
  ∀ h, oMem Z h0 h ds → MetFree l y (head1 (Jvm.Cond.code y by0 ml ret :: ws) rm) (fun a U => a = as' ∧ Z.Warmed39 U.vm ∧ U.heap = h) (fun _ _ _ _ _ => True)
    (fun _ U o U' => ∃ v L, o = .returned v ∧ (Fr h0.size L ∧ ∃ ds', P v ds' ∧ oMem Z h0 U'.heap ds') ∧ FrameEnd U o U' L rm.cells rm.slots)
def oVal (P2 : Value → oDs → Prop) (v : Option Value) (ds : oDs) : Prop := ∃ w, v = some w ∧ P2 w ds
def oVoid (P3 : oDs → Prop) (v : Option Value) (ds : oDs) : Prop := v = none ∧ P3 ds
theorem oCtr.of {l : Launch} {Z : State} {h0 : Heap} {ws : List Jvm.Cond} {y : MethodName} {by0 : ByteArray} {ml : Nat} {ret : Option FieldType} {rm : Room} {as' : Array Value} {ds : oDs} {P : Option Value → oDs → Prop} {Ls : Array Slot}
    (hpl : plainFor y = true) (hef : ∀ m, entryFrame m as' ml = mkF m 0 Ls [])
    (hb : ∀ p e s m below meth c, oK p s m meth c Z y.cls by0 ml ret y.name → oW p l e rm s m as' below meth c Z h0 P ds 0 0 0 Ls []) : oCtr l Z h0 ws y by0 ml ret rm as' ds P := by
  intro h M
  refine MetFree.of_bodySF hpl hisR ?_
  intro p e s m args below meth c s₁ Bd hml0 hP hK
  obtain ⟨rfl, hZ, hh⟩ := hP
  have e0 : s₁.heap = h := by rw [← hh, Bd.state]; rfl
  have K : oK p s m meth c Z y.cls by0 ml ret y.name := ⟨⟨Bd.exec, hZ, Bd.bytes, hml0⟩, findClass_of_methodNamed Bd.named, Bd.returns, Bd.notSynchronized, (name_of_methodNamed Bd.named Bd.method).1⟩
  obtain ⟨s₂, o, h1, h2⟩ := hb p e s m below meth c K s₁ ⟨[], Stand.of_body Bd, Fr.nil _, by rw [e0]; exact M⟩
  exact ⟨s₂, o, castTop (hef m) h1, h2⟩
section Steps
variable {p : Program} {l : Launch} {e : Env} {R : Room} {s : State} {m : MethodId} {args : Array Value} {below : List Frame} {meth : Method} {c : Code} {Z : State} {h0 : Heap} {own nm : String} {by0 : ByteArray} {ml : Nat} {ret : Option FieldType} {P : Option Value → oDs → Prop} {ds ds' : oDs} {cells slots pc pc' : Nat} {Ls Ls' : Array Slot} {S S' : List Value} {a0 : Array Value}
theorem oW.pure (st : ∀ T locs, Stand p l e R s m args below meth c T locs cells slots → ∀ t, Steps p.tables e below (T.setTop (mkF m pc' Ls' S')) t → Steps p.tables e below (T.setTop (mkF m pc Ls S)) t) (hr : oW p l e R s m args below meth c Z h0 P ds cells slots pc' Ls' S') : oW p l e R s m args below meth c Z h0 P ds cells slots pc Ls S := by
  rintro T ⟨locs, X, N, M⟩
  obtain ⟨s₂, o, h1, h2⟩ := hr T ⟨locs, X, N, M⟩
  exact ⟨s₂, o, st T locs X _ h1, h2⟩
theorem oW.ends {T T' : State} {g g' : JFrame} (st : ∀ t, Steps p.tables e below (T'.setTop g') t → Steps p.tables e below (T.setTop g) t) (hr : oEnds p e R s below Z h0 P T' g') : oEnds p e R s below Z h0 P T g := by
  obtain ⟨s₂, o, h1, h2⟩ := hr
  exact ⟨s₂, o, st _ h1, h2⟩
theorem oW.join {α : Type} {F : α → Prop} {pcj : Nat} {Lf : α → Array Slot} {Sf : α → List Value} {dsf : α → oDs} (h1 : (∀ z, F z → oW p l e R s m args below meth c Z h0 P (dsf z) cells slots pcj (Lf z) (Sf z)) → oW p l e R s m args below meth c Z h0 P ds cells slots pc Ls S) (h2 : ∀ z, F z → oW p l e R s m args below meth c Z h0 P (dsf z) cells slots pcj (Lf z) (Sf z)) : oW p l e R s m args below meth c Z h0 P ds cells slots pc Ls S := h1 h2
theorem oW.iload (K : oK p s m meth c Z own by0 ml ret nm) {k : Nat} {v : Int32} (hd : decode by0 pc = .ok (.iload k, 2)) (hl : Ls[k]? = some (.val (.int v))) (hp : pc + 2 = pc') (hr : oW p l e R s m args below meth c Z h0 P ds cells slots pc' Ls (.int v :: S)) : oW p l e R s m args below meth c Z h0 P ds cells slots pc Ls (S) := by
  subst hp
  exact oW.pure (fun T locs X t k => XS.iload X.here K.1.1 rfl (hb K.1.2.2.1 hd) hl k) hr
theorem oW.iloadN (K : oK p s m meth c Z own by0 ml ret nm) {k : Fin 4} {v : Int32} (hd : decode by0 pc = .ok (.iload_n k, 1)) (hl : Ls[k.val]? = some (.val (.int v))) (hp : pc + 1 = pc') (hr : oW p l e R s m args below meth c Z h0 P ds cells slots pc' Ls (.int v :: S)) : oW p l e R s m args below meth c Z h0 P ds cells slots pc Ls (S) := by
  subst hp
  exact oW.pure (fun T locs X t k => XS.iloadN X.here K.1.1 rfl (hb K.1.2.2.1 hd) hl k) hr
theorem oW.istore (K : oK p s m meth c Z own by0 ml ret nm) {k : Nat} {v : Int32} (hd : decode by0 pc = .ok (.istore k, 2)) (hl : storeLocals Ls k (.int v) = some Ls') (hp : pc + 2 = pc') (hr : oW p l e R s m args below meth c Z h0 P ds cells slots pc' Ls' (S)) : oW p l e R s m args below meth c Z h0 P ds cells slots pc Ls (.int v :: S) := by
  subst hp
  exact oW.pure (fun T locs X t k => XS.istore X.here K.1.1 rfl (hb K.1.2.2.1 hd) rfl hl k) hr
theorem oW.istoreN (K : oK p s m meth c Z own by0 ml ret nm) {k : Fin 4} {v : Int32} (hd : decode by0 pc = .ok (.istore_n k, 1)) (hl : storeLocals Ls k.val (.int v) = some Ls') (hp : pc + 1 = pc') (hr : oW p l e R s m args below meth c Z h0 P ds cells slots pc' Ls' (S)) : oW p l e R s m args below meth c Z h0 P ds cells slots pc Ls (.int v :: S) := by
  subst hp
  exact oW.pure (fun T locs X t k => XS.istoreN X.here K.1.1 rfl (hb K.1.2.2.1 hd) rfl hl k) hr
theorem oW.lload (K : oK p s m meth c Z own by0 ml ret nm) {k : Nat} {v : Int64} (hd : decode by0 pc = .ok (.lload k, 2)) (hl : Ls[k]? = some (.val (.long v))) (hp : pc + 2 = pc') (hr : oW p l e R s m args below meth c Z h0 P ds cells slots pc' Ls (.long v :: S)) : oW p l e R s m args below meth c Z h0 P ds cells slots pc Ls (S) := by
  subst hp
  exact oW.pure (fun T locs X t k => XS.lload X.here K.1.1 rfl (hb K.1.2.2.1 hd) hl k) hr
theorem oW.lloadN (K : oK p s m meth c Z own by0 ml ret nm) {k : Fin 4} {v : Int64} (hd : decode by0 pc = .ok (.lload_n k, 1)) (hl : Ls[k.val]? = some (.val (.long v))) (hp : pc + 1 = pc') (hr : oW p l e R s m args below meth c Z h0 P ds cells slots pc' Ls (.long v :: S)) : oW p l e R s m args below meth c Z h0 P ds cells slots pc Ls (S) := by
  subst hp
  exact oW.pure (fun T locs X t k => XS.lloadN X.here K.1.1 rfl (hb K.1.2.2.1 hd) hl k) hr
theorem oW.lstore (K : oK p s m meth c Z own by0 ml ret nm) {k : Nat} {v : Int64} (hd : decode by0 pc = .ok (.lstore k, 2)) (hl : storeLocals Ls k (.long v) = some Ls') (hp : pc + 2 = pc') (hr : oW p l e R s m args below meth c Z h0 P ds cells slots pc' Ls' (S)) : oW p l e R s m args below meth c Z h0 P ds cells slots pc Ls (.long v :: S) := by
  subst hp
  exact oW.pure (fun T locs X t k => XS.lstore X.here K.1.1 rfl (hb K.1.2.2.1 hd) rfl hl k) hr
theorem oW.lstoreN (K : oK p s m meth c Z own by0 ml ret nm) {k : Fin 4} {v : Int64} (hd : decode by0 pc = .ok (.lstore_n k, 1)) (hl : storeLocals Ls k.val (.long v) = some Ls') (hp : pc + 1 = pc') (hr : oW p l e R s m args below meth c Z h0 P ds cells slots pc' Ls' (S)) : oW p l e R s m args below meth c Z h0 P ds cells slots pc Ls (.long v :: S) := by
  subst hp
  exact oW.pure (fun T locs X t k => XS.lstoreN X.here K.1.1 rfl (hb K.1.2.2.1 hd) rfl hl k) hr
theorem oW.dload (K : oK p s m meth c Z own by0 ml ret nm) {k : Nat} {v : UInt64} (hd : decode by0 pc = .ok (.dload k, 2)) (hl : Ls[k]? = some (.val (.double v))) (hp : pc + 2 = pc') (hr : oW p l e R s m args below meth c Z h0 P ds cells slots pc' Ls (.double v :: S)) : oW p l e R s m args below meth c Z h0 P ds cells slots pc Ls (S) := by
  subst hp
  exact oW.pure (fun T locs X t k => XS.dload X.here K.1.1 rfl (hb K.1.2.2.1 hd) hl k) hr
theorem oW.dloadN (K : oK p s m meth c Z own by0 ml ret nm) {k : Fin 4} {v : UInt64} (hd : decode by0 pc = .ok (.dload_n k, 1)) (hl : Ls[k.val]? = some (.val (.double v))) (hp : pc + 1 = pc') (hr : oW p l e R s m args below meth c Z h0 P ds cells slots pc' Ls (.double v :: S)) : oW p l e R s m args below meth c Z h0 P ds cells slots pc Ls (S) := by
  subst hp
  exact oW.pure (fun T locs X t k => XS.dloadN X.here K.1.1 rfl (hb K.1.2.2.1 hd) hl k) hr
theorem oW.dstore (K : oK p s m meth c Z own by0 ml ret nm) {k : Nat} {v : UInt64} (hd : decode by0 pc = .ok (.dstore k, 2)) (hl : storeLocals Ls k (.double v) = some Ls') (hp : pc + 2 = pc') (hr : oW p l e R s m args below meth c Z h0 P ds cells slots pc' Ls' (S)) : oW p l e R s m args below meth c Z h0 P ds cells slots pc Ls (.double v :: S) := by
  subst hp
  exact oW.pure (fun T locs X t k => XS.dstore X.here K.1.1 rfl (hb K.1.2.2.1 hd) rfl hl k) hr
theorem oW.dstoreN (K : oK p s m meth c Z own by0 ml ret nm) {k : Fin 4} {v : UInt64} (hd : decode by0 pc = .ok (.dstore_n k, 1)) (hl : storeLocals Ls k.val (.double v) = some Ls') (hp : pc + 1 = pc') (hr : oW p l e R s m args below meth c Z h0 P ds cells slots pc' Ls' (S)) : oW p l e R s m args below meth c Z h0 P ds cells slots pc Ls (.double v :: S) := by
  subst hp
  exact oW.pure (fun T locs X t k => XS.dstoreN X.here K.1.1 rfl (hb K.1.2.2.1 hd) rfl hl k) hr
theorem oW.aload (K : oK p s m meth c Z own by0 ml ret nm) {k : Nat} {v : Value} (hd : decode by0 pc = .ok (.aload k, 2)) (hl : Ls[k]? = some (.val v)) (hv : v.isRef = true) (hp : pc + 2 = pc') (hr : oW p l e R s m args below meth c Z h0 P ds cells slots pc' Ls (v :: S)) : oW p l e R s m args below meth c Z h0 P ds cells slots pc Ls (S) := by
  subst hp
  exact oW.pure (fun T locs X t k => XS.aload X.here K.1.1 rfl (hb K.1.2.2.1 hd) hl hv k) hr
theorem oW.aloadN (K : oK p s m meth c Z own by0 ml ret nm) {k : Fin 4} {v : Value} (hd : decode by0 pc = .ok (.aload_n k, 1)) (hl : Ls[k.val]? = some (.val v)) (hv : v.isRef = true) (hp : pc + 1 = pc') (hr : oW p l e R s m args below meth c Z h0 P ds cells slots pc' Ls (v :: S)) : oW p l e R s m args below meth c Z h0 P ds cells slots pc Ls (S) := by
  subst hp
  exact oW.pure (fun T locs X t k => XS.aloadN X.here K.1.1 rfl (hb K.1.2.2.1 hd) hl hv k) hr
theorem oW.astore (K : oK p s m meth c Z own by0 ml ret nm) {k : Nat} {v : Value} (hd : decode by0 pc = .ok (.astore k, 2)) (hv : v.isRef = true) (hl : storeLocals Ls k v = some Ls') (hp : pc + 2 = pc') (hr : oW p l e R s m args below meth c Z h0 P ds cells slots pc' Ls' (S)) : oW p l e R s m args below meth c Z h0 P ds cells slots pc Ls (v :: S) := by
  subst hp
  exact oW.pure (fun T locs X t k => XS.astore X.here K.1.1 rfl (hb K.1.2.2.1 hd) rfl hv hl k) hr
theorem oW.astoreN (K : oK p s m meth c Z own by0 ml ret nm) {k : Fin 4} {v : Value} (hd : decode by0 pc = .ok (.astore_n k, 1)) (hv : v.isRef = true) (hl : storeLocals Ls k.val v = some Ls') (hp : pc + 1 = pc') (hr : oW p l e R s m args below meth c Z h0 P ds cells slots pc' Ls' (S)) : oW p l e R s m args below meth c Z h0 P ds cells slots pc Ls (v :: S) := by
  subst hp
  exact oW.pure (fun T locs X t k => XS.astoreN X.here K.1.1 rfl (hb K.1.2.2.1 hd) rfl hv hl k) hr
theorem oW.aconstNull (K : oK p s m meth c Z own by0 ml ret nm)  (hd : decode by0 pc = .ok (.aconst_null, 1))  (hp : pc + 1 = pc') (hr : oW p l e R s m args below meth c Z h0 P ds cells slots pc' Ls (.null :: S)) : oW p l e R s m args below meth c Z h0 P ds cells slots pc Ls (S) := by
  subst hp
  exact oW.pure (fun T locs X t k => XS.aconstNull X.here K.1.1 rfl (hb K.1.2.2.1 hd) k) hr
theorem oW.iconst (K : oK p s m meth c Z own by0 ml ret nm) {i : Int} {v : Int32} (hd : decode by0 pc = .ok (.iconst i, 1)) (hv : v = Int32.ofInt i) (hp : pc + 1 = pc') (hr : oW p l e R s m args below meth c Z h0 P ds cells slots pc' Ls (.int v :: S)) : oW p l e R s m args below meth c Z h0 P ds cells slots pc Ls (S) := by
  subst hp hv
  exact oW.pure (fun T locs X t k => XS.iconst X.here K.1.1 rfl (hb K.1.2.2.1 hd) k) hr
theorem oW.bipush (K : oK p s m meth c Z own by0 ml ret nm) {i : Int} {v : Int32} (hd : decode by0 pc = .ok (.bipush i, 2)) (hv : v = (Int8.ofInt i).toInt32) (hp : pc + 2 = pc') (hr : oW p l e R s m args below meth c Z h0 P ds cells slots pc' Ls (.int v :: S)) : oW p l e R s m args below meth c Z h0 P ds cells slots pc Ls (S) := by
  subst hp hv
  exact oW.pure (fun T locs X t k => XS.bipush X.here K.1.1 rfl (hb K.1.2.2.1 hd) k) hr
theorem oW.sipush (K : oK p s m meth c Z own by0 ml ret nm) {i : Int} {v : Int32} (hd : decode by0 pc = .ok (.sipush i, 3)) (hv : v = (Int16.ofInt i).toInt32) (hp : pc + 3 = pc') (hr : oW p l e R s m args below meth c Z h0 P ds cells slots pc' Ls (.int v :: S)) : oW p l e R s m args below meth c Z h0 P ds cells slots pc Ls (S) := by
  subst hp hv
  exact oW.pure (fun T locs X t k => XS.sipush X.here K.1.1 rfl (hb K.1.2.2.1 hd) k) hr
theorem oW.lconst (K : oK p s m meth c Z own by0 ml ret nm) {k : Fin 2} {v : Int64} (hd : decode by0 pc = .ok (.lconst k, 1)) (hv : v = Int64.ofNat k.val) (hp : pc + 1 = pc') (hr : oW p l e R s m args below meth c Z h0 P ds cells slots pc' Ls (.long v :: S)) : oW p l e R s m args below meth c Z h0 P ds cells slots pc Ls (S) := by
  subst hp hv
  exact oW.pure (fun T locs X t k => XT.lconst X.here K.1.1 rfl (hb K.1.2.2.1 hd) k) hr
theorem oW.dconst0 (K : oK p s m meth c Z own by0 ml ret nm)  (hd : decode by0 pc = .ok (.dconst 0, 1))  (hp : pc + 1 = pc') (hr : oW p l e R s m args below meth c Z h0 P ds cells slots pc' Ls (.double 0 :: S)) : oW p l e R s m args below meth c Z h0 P ds cells slots pc Ls (S) := by
  subst hp
  exact oW.pure (fun T locs X t k => XS.dconst0 X.here K.1.1 rfl (hb K.1.2.2.1 hd) rfl k) hr
theorem oW.dconst1 (K : oK p s m meth c Z own by0 ml ret nm)  (hd : decode by0 pc = .ok (.dconst 1, 1))  (hp : pc + 1 = pc') (hr : oW p l e R s m args below meth c Z h0 P ds cells slots pc' Ls (.double 4607182418800017408 :: S)) : oW p l e R s m args below meth c Z h0 P ds cells slots pc Ls (S) := by
  subst hp
  exact oW.pure (fun T locs X t k => XS.dconst1 X.here K.1.1 rfl (hb K.1.2.2.1 hd) rfl k) hr
theorem oW.iadd (K : oK p s m meth c Z own by0 ml ret nm) {x y v : Int32} (hd : decode by0 pc = .ok (.iadd, 1)) (hv : v = x + y) (hp : pc + 1 = pc') (hr : oW p l e R s m args below meth c Z h0 P ds cells slots pc' Ls (.int v :: S)) : oW p l e R s m args below meth c Z h0 P ds cells slots pc Ls (.int y :: .int x :: S) := by
  subst hp hv
  exact oW.pure (fun T locs X t k => XS.iadd X.here K.1.1 rfl (hb K.1.2.2.1 hd) rfl k) hr
theorem oW.ladd (K : oK p s m meth c Z own by0 ml ret nm) {x y v : Int64} (hd : decode by0 pc = .ok (.ladd, 1)) (hv : v = x + y) (hp : pc + 1 = pc') (hr : oW p l e R s m args below meth c Z h0 P ds cells slots pc' Ls (.long v :: S)) : oW p l e R s m args below meth c Z h0 P ds cells slots pc Ls (.long y :: .long x :: S) := by
  subst hp hv
  exact oW.pure (fun T locs X t k => XT.ladd X.here K.1.1 rfl (hb K.1.2.2.1 hd) rfl k) hr
theorem oW.isub (K : oK p s m meth c Z own by0 ml ret nm) {x y v : Int32} (hd : decode by0 pc = .ok (.isub, 1)) (hv : v = x - y) (hp : pc + 1 = pc') (hr : oW p l e R s m args below meth c Z h0 P ds cells slots pc' Ls (.int v :: S)) : oW p l e R s m args below meth c Z h0 P ds cells slots pc Ls (.int y :: .int x :: S) := by
  subst hp hv
  exact oW.pure (fun T locs X t k => XS.isub X.here K.1.1 rfl (hb K.1.2.2.1 hd) rfl k) hr
theorem oW.lsub (K : oK p s m meth c Z own by0 ml ret nm) {x y v : Int64} (hd : decode by0 pc = .ok (.lsub, 1)) (hv : v = x - y) (hp : pc + 1 = pc') (hr : oW p l e R s m args below meth c Z h0 P ds cells slots pc' Ls (.long v :: S)) : oW p l e R s m args below meth c Z h0 P ds cells slots pc Ls (.long y :: .long x :: S) := by
  subst hp hv
  exact oW.pure (fun T locs X t k => XT.lsub X.here K.1.1 rfl (hb K.1.2.2.1 hd) rfl k) hr
theorem oW.imul (K : oK p s m meth c Z own by0 ml ret nm) {x y v : Int32} (hd : decode by0 pc = .ok (.imul, 1)) (hv : v = x * y) (hp : pc + 1 = pc') (hr : oW p l e R s m args below meth c Z h0 P ds cells slots pc' Ls (.int v :: S)) : oW p l e R s m args below meth c Z h0 P ds cells slots pc Ls (.int y :: .int x :: S) := by
  subst hp hv
  exact oW.pure (fun T locs X t k => XS.imul X.here K.1.1 rfl (hb K.1.2.2.1 hd) rfl k) hr
theorem oW.lmul (K : oK p s m meth c Z own by0 ml ret nm) {x y v : Int64} (hd : decode by0 pc = .ok (.lmul, 1)) (hv : v = x * y) (hp : pc + 1 = pc') (hr : oW p l e R s m args below meth c Z h0 P ds cells slots pc' Ls (.long v :: S)) : oW p l e R s m args below meth c Z h0 P ds cells slots pc Ls (.long y :: .long x :: S) := by
  subst hp hv
  exact oW.pure (fun T locs X t k => XT.lmul X.here K.1.1 rfl (hb K.1.2.2.1 hd) rfl k) hr
theorem oW.iand (K : oK p s m meth c Z own by0 ml ret nm) {x y v : Int32} (hd : decode by0 pc = .ok (.iand, 1)) (hv : v = x &&& y) (hp : pc + 1 = pc') (hr : oW p l e R s m args below meth c Z h0 P ds cells slots pc' Ls (.int v :: S)) : oW p l e R s m args below meth c Z h0 P ds cells slots pc Ls (.int y :: .int x :: S) := by
  subst hp hv
  exact oW.pure (fun T locs X t k => XS.iand X.here K.1.1 rfl (hb K.1.2.2.1 hd) rfl k) hr
theorem oW.land (K : oK p s m meth c Z own by0 ml ret nm) {x y v : Int64} (hd : decode by0 pc = .ok (.land, 1)) (hv : v = x &&& y) (hp : pc + 1 = pc') (hr : oW p l e R s m args below meth c Z h0 P ds cells slots pc' Ls (.long v :: S)) : oW p l e R s m args below meth c Z h0 P ds cells slots pc Ls (.long y :: .long x :: S) := by
  subst hp hv
  exact oW.pure (fun T locs X t k => XT.land X.here K.1.1 rfl (hb K.1.2.2.1 hd) rfl k) hr
theorem oW.ior (K : oK p s m meth c Z own by0 ml ret nm) {x y v : Int32} (hd : decode by0 pc = .ok (.ior, 1)) (hv : v = x ||| y) (hp : pc + 1 = pc') (hr : oW p l e R s m args below meth c Z h0 P ds cells slots pc' Ls (.int v :: S)) : oW p l e R s m args below meth c Z h0 P ds cells slots pc Ls (.int y :: .int x :: S) := by
  subst hp hv
  exact oW.pure (fun T locs X t k => XT.ior X.here K.1.1 rfl (hb K.1.2.2.1 hd) rfl k) hr
theorem oW.lor (K : oK p s m meth c Z own by0 ml ret nm) {x y v : Int64} (hd : decode by0 pc = .ok (.lor, 1)) (hv : v = x ||| y) (hp : pc + 1 = pc') (hr : oW p l e R s m args below meth c Z h0 P ds cells slots pc' Ls (.long v :: S)) : oW p l e R s m args below meth c Z h0 P ds cells slots pc Ls (.long y :: .long x :: S) := by
  subst hp hv
  exact oW.pure (fun T locs X t k => XT.lor X.here K.1.1 rfl (hb K.1.2.2.1 hd) rfl k) hr
theorem oW.ixor (K : oK p s m meth c Z own by0 ml ret nm) {x y v : Int32} (hd : decode by0 pc = .ok (.ixor, 1)) (hv : v = x ^^^ y) (hp : pc + 1 = pc') (hr : oW p l e R s m args below meth c Z h0 P ds cells slots pc' Ls (.int v :: S)) : oW p l e R s m args below meth c Z h0 P ds cells slots pc Ls (.int y :: .int x :: S) := by
  subst hp hv
  exact oW.pure (fun T locs X t k => XT.ixor X.here K.1.1 rfl (hb K.1.2.2.1 hd) rfl k) hr
theorem oW.lxor (K : oK p s m meth c Z own by0 ml ret nm) {x y v : Int64} (hd : decode by0 pc = .ok (.lxor, 1)) (hv : v = x ^^^ y) (hp : pc + 1 = pc') (hr : oW p l e R s m args below meth c Z h0 P ds cells slots pc' Ls (.long v :: S)) : oW p l e R s m args below meth c Z h0 P ds cells slots pc Ls (.long y :: .long x :: S) := by
  subst hp hv
  exact oW.pure (fun T locs X t k => XT.lxor X.here K.1.1 rfl (hb K.1.2.2.1 hd) rfl k) hr
theorem oW.idiv (K : oK p s m meth c Z own by0 ml ret nm) {x y v : Int32} (hd : decode by0 pc = .ok (.idiv, 1)) (hy : y ≠ 0) (hv : v = x / y) (hp : pc + 1 = pc') (hr : oW p l e R s m args below meth c Z h0 P ds cells slots pc' Ls (.int v :: S)) : oW p l e R s m args below meth c Z h0 P ds cells slots pc Ls (.int y :: .int x :: S) := by
  subst hp hv
  exact oW.pure (fun T locs X t k => XS.idiv X.here K.1.1 rfl (hb K.1.2.2.1 hd) rfl hy k) hr
theorem oW.irem (K : oK p s m meth c Z own by0 ml ret nm) {x y v : Int32} (hd : decode by0 pc = .ok (.irem, 1)) (hy : y ≠ 0) (hv : v = x % y) (hp : pc + 1 = pc') (hr : oW p l e R s m args below meth c Z h0 P ds cells slots pc' Ls (.int v :: S)) : oW p l e R s m args below meth c Z h0 P ds cells slots pc Ls (.int y :: .int x :: S) := by
  subst hp hv
  exact oW.pure (fun T locs X t k => iremM X K.1.1 rfl (hb K.1.2.2.1 hd) rfl hy k) hr
theorem oW.ineg (K : oK p s m meth c Z own by0 ml ret nm) {x v : Int32} (hd : decode by0 pc = .ok (.ineg, 1)) (hv : v = -x) (hp : pc + 1 = pc') (hr : oW p l e R s m args below meth c Z h0 P ds cells slots pc' Ls (.int v :: S)) : oW p l e R s m args below meth c Z h0 P ds cells slots pc Ls (.int x :: S) := by
  subst hp hv
  exact oW.pure (fun T locs X t k => XS.ineg X.here K.1.1 rfl (hb K.1.2.2.1 hd) rfl k) hr
theorem oW.ishl (K : oK p s m meth c Z own by0 ml ret nm) {x y v : Int32} (hd : decode by0 pc = .ok (.ishl, 1)) (hv : v = x <<< (y &&& 31)) (hp : pc + 1 = pc') (hr : oW p l e R s m args below meth c Z h0 P ds cells slots pc' Ls (.int v :: S)) : oW p l e R s m args below meth c Z h0 P ds cells slots pc Ls (.int y :: .int x :: S) := by
  subst hp hv
  exact oW.pure (fun T locs X t k => XT.ishl X.here K.1.1 rfl (hb K.1.2.2.1 hd) rfl k) hr
theorem oW.ishr (K : oK p s m meth c Z own by0 ml ret nm) {x y v : Int32} (hd : decode by0 pc = .ok (.ishr, 1)) (hv : v = x >>> (y &&& 31)) (hp : pc + 1 = pc') (hr : oW p l e R s m args below meth c Z h0 P ds cells slots pc' Ls (.int v :: S)) : oW p l e R s m args below meth c Z h0 P ds cells slots pc Ls (.int y :: .int x :: S) := by
  subst hp hv
  exact oW.pure (fun T locs X t k => XT.ishr X.here K.1.1 rfl (hb K.1.2.2.1 hd) rfl k) hr
theorem oW.iushr (K : oK p s m meth c Z own by0 ml ret nm) {x y v : Int32} (hd : decode by0 pc = .ok (.iushr, 1)) (hv : v = XT.ushr x y) (hp : pc + 1 = pc') (hr : oW p l e R s m args below meth c Z h0 P ds cells slots pc' Ls (.int v :: S)) : oW p l e R s m args below meth c Z h0 P ds cells slots pc Ls (.int y :: .int x :: S) := by
  subst hp hv
  exact oW.pure (fun T locs X t k => XT.iushr X.here K.1.1 rfl (hb K.1.2.2.1 hd) rfl k) hr
theorem oW.iinc (K : oK p s m meth c Z own by0 ml ret nm) {k : Nat} {cst : Int} {x v : Int32} (hd : decode by0 pc = .ok (.iinc k cst, 3)) (hl : Ls[k]? = some (.val (.int x))) (hv : v = x + Int32.ofInt cst) (hs : storeLocals Ls k (.int v) = some Ls') (hp : pc + 3 = pc') (hr : oW p l e R s m args below meth c Z h0 P ds cells slots pc' Ls' (S)) : oW p l e R s m args below meth c Z h0 P ds cells slots pc Ls (S) := by
  subst hp hv
  exact oW.pure (fun T locs X t k => XS.iinc X.here K.1.1 rfl (hb K.1.2.2.1 hd) hl hs k) hr
theorem oW.i2l (K : oK p s m meth c Z own by0 ml ret nm) {x : Int32} {v : Int64} (hd : decode by0 pc = .ok (.i2l, 1)) (hv : v = x.toInt64) (hp : pc + 1 = pc') (hr : oW p l e R s m args below meth c Z h0 P ds cells slots pc' Ls (.long v :: S)) : oW p l e R s m args below meth c Z h0 P ds cells slots pc Ls (.int x :: S) := by
  subst hp hv
  exact oW.pure (fun T locs X t k => XT.i2l X.here K.1.1 rfl (hb K.1.2.2.1 hd) rfl k) hr
theorem oW.l2i (K : oK p s m meth c Z own by0 ml ret nm) {x : Int64} {v : Int32} (hd : decode by0 pc = .ok (.l2i, 1)) (hv : v = x.toInt32) (hp : pc + 1 = pc') (hr : oW p l e R s m args below meth c Z h0 P ds cells slots pc' Ls (.int v :: S)) : oW p l e R s m args below meth c Z h0 P ds cells slots pc Ls (.long x :: S) := by
  subst hp hv
  exact oW.pure (fun T locs X t k => XT.l2i X.here K.1.1 rfl (hb K.1.2.2.1 hd) rfl k) hr
theorem oW.i2s (K : oK p s m meth c Z own by0 ml ret nm) {x v : Int32} (hd : decode by0 pc = .ok (.i2s, 1)) (hv : v = x.toInt16.toInt32) (hp : pc + 1 = pc') (hr : oW p l e R s m args below meth c Z h0 P ds cells slots pc' Ls (.int v :: S)) : oW p l e R s m args below meth c Z h0 P ds cells slots pc Ls (.int x :: S) := by
  subst hp hv
  exact oW.pure (fun T locs X t k => XT.i2s X.here K.1.1 rfl (hb K.1.2.2.1 hd) rfl k) hr
theorem oW.lshl (K : oK p s m meth c Z own by0 ml ret nm) {x v : Int64} {y : Int32} (hd : decode by0 pc = .ok (.lshl, 1)) (hv : v = x <<< (y.toInt64 &&& 63)) (hp : pc + 1 = pc') (hr : oW p l e R s m args below meth c Z h0 P ds cells slots pc' Ls (.long v :: S)) : oW p l e R s m args below meth c Z h0 P ds cells slots pc Ls (.int y :: .long x :: S) := by
  subst hp hv
  exact oW.pure (fun T locs X t k => XT.lshl X.here K.1.1 rfl (hb K.1.2.2.1 hd) rfl k) hr
theorem oW.lshr (K : oK p s m meth c Z own by0 ml ret nm) {x v : Int64} {y : Int32} (hd : decode by0 pc = .ok (.lshr, 1)) (hv : v = x >>> (y.toInt64 &&& 63)) (hp : pc + 1 = pc') (hr : oW p l e R s m args below meth c Z h0 P ds cells slots pc' Ls (.long v :: S)) : oW p l e R s m args below meth c Z h0 P ds cells slots pc Ls (.int y :: .long x :: S) := by
  subst hp hv
  exact oW.pure (fun T locs X t k => XT.lshr X.here K.1.1 rfl (hb K.1.2.2.1 hd) rfl k) hr
theorem oW.lushr (K : oK p s m meth c Z own by0 ml ret nm) {x v : Int64} {y : Int32} (hd : decode by0 pc = .ok (.lushr, 1)) (hv : v = XT.ushrL x y) (hp : pc + 1 = pc') (hr : oW p l e R s m args below meth c Z h0 P ds cells slots pc' Ls (.long v :: S)) : oW p l e R s m args below meth c Z h0 P ds cells slots pc Ls (.int y :: .long x :: S) := by
  subst hp hv
  exact oW.pure (fun T locs X t k => XT.lushr X.here K.1.1 rfl (hb K.1.2.2.1 hd) rfl k) hr
theorem oW.lcmp (K : oK p s m meth c Z own by0 ml ret nm) {x y : Int64} {v : Int32} (hd : decode by0 pc = .ok (.lcmp, 1)) (hv : v = XT.cmpL x y) (hp : pc + 1 = pc') (hr : oW p l e R s m args below meth c Z h0 P ds cells slots pc' Ls (.int v :: S)) : oW p l e R s m args below meth c Z h0 P ds cells slots pc Ls (.long y :: .long x :: S) := by
  subst hp hv
  exact oW.pure (fun T locs X t k => XT.lcmp X.here K.1.1 rfl (hb K.1.2.2.1 hd) rfl k) hr
theorem oW.i2d (K : oK p s m meth c Z own by0 ml ret nm) {x : Int32} {v : UInt64} (hd : decode by0 pc = .ok (.i2d, 1)) (hv : v = FP.i2d x) (hp : pc + 1 = pc') (hr : oW p l e R s m args below meth c Z h0 P ds cells slots pc' Ls (.double v :: S)) : oW p l e R s m args below meth c Z h0 P ds cells slots pc Ls (.int x :: S) := by
  subst hp hv
  exact oW.pure (fun T locs X t k => XS.i2dS X.here K.1.1 rfl (hb K.1.2.2.1 hd) rfl rfl k) hr
theorem oW.l2d (K : oK p s m meth c Z own by0 ml ret nm) {x : Int64} {v : UInt64} (hd : decode by0 pc = .ok (.l2d, 1)) (hv : v = FP.l2d x) (hp : pc + 1 = pc') (hr : oW p l e R s m args below meth c Z h0 P ds cells slots pc' Ls (.double v :: S)) : oW p l e R s m args below meth c Z h0 P ds cells slots pc Ls (.long x :: S) := by
  subst hp hv
  exact oW.pure (fun T locs X t k => XS.l2dS X.here K.1.1 rfl (hb K.1.2.2.1 hd) rfl rfl k) hr
theorem oW.dcmp (K : oK p s m meth c Z own by0 ml ret nm) {o : CmpOp} {x y : UInt64} {v : Int32} (hd : decode by0 pc = .ok (.dcmp o, 1)) (hv : v = cmpValue (FP.dcmp x y) o) (hp : pc + 1 = pc') (hr : oW p l e R s m args below meth c Z h0 P ds cells slots pc' Ls (.int v :: S)) : oW p l e R s m args below meth c Z h0 P ds cells slots pc Ls (.double y :: .double x :: S) := by
  subst hp hv
  exact oW.pure (fun T locs X t k => XS.dcmpS X.here K.1.1 rfl (hb K.1.2.2.1 hd) rfl rfl k) hr
theorem oW.dadd (K : oK p s m meth c Z own by0 ml ret nm) {x y v : UInt64} (hd : decode by0 pc = .ok (.dadd, 1)) (hv : v = FP.dadd x y) (hn : Jvm.Free.Fl.NoNaN64 v) (hp : pc + 1 = pc') (hr : oW p l e R s m args below meth c Z h0 P ds cells slots pc' Ls (.double v :: S)) : oW p l e R s m args below meth c Z h0 P ds cells slots pc Ls (.double y :: .double x :: S) := by
  subst hp hv
  exact oW.pure (fun T locs X t k => XS.daddS X.here K.1.1 rfl (hb K.1.2.2.1 hd) rfl hn rfl k) hr
theorem oW.dsub (K : oK p s m meth c Z own by0 ml ret nm) {x y v : UInt64} (hd : decode by0 pc = .ok (.dsub, 1)) (hv : v = FP.dsub x y) (hn : Jvm.Free.Fl.NoNaN64 v) (hp : pc + 1 = pc') (hr : oW p l e R s m args below meth c Z h0 P ds cells slots pc' Ls (.double v :: S)) : oW p l e R s m args below meth c Z h0 P ds cells slots pc Ls (.double y :: .double x :: S) := by
  subst hp hv
  exact oW.pure (fun T locs X t k => XS.dsubS X.here K.1.1 rfl (hb K.1.2.2.1 hd) rfl hn rfl k) hr
theorem oW.dmul (K : oK p s m meth c Z own by0 ml ret nm) {x y v : UInt64} (hd : decode by0 pc = .ok (.dmul, 1)) (hv : v = FP.dmul x y) (hn : Jvm.Free.Fl.NoNaN64 v) (hp : pc + 1 = pc') (hr : oW p l e R s m args below meth c Z h0 P ds cells slots pc' Ls (.double v :: S)) : oW p l e R s m args below meth c Z h0 P ds cells slots pc Ls (.double y :: .double x :: S) := by
  subst hp hv
  exact oW.pure (fun T locs X t k => XS.dmulS X.here K.1.1 rfl (hb K.1.2.2.1 hd) rfl hn rfl k) hr
theorem oW.ddiv (K : oK p s m meth c Z own by0 ml ret nm) {x y v : UInt64} (hd : decode by0 pc = .ok (.ddiv, 1)) (hv : v = FP.ddiv x y) (hn : Jvm.Free.Fl.NoNaN64 v) (hp : pc + 1 = pc') (hr : oW p l e R s m args below meth c Z h0 P ds cells slots pc' Ls (.double v :: S)) : oW p l e R s m args below meth c Z h0 P ds cells slots pc Ls (.double y :: .double x :: S) := by
  subst hp hv
  exact oW.pure (fun T locs X t k => XS.ddivS X.here K.1.1 rfl (hb K.1.2.2.1 hd) rfl hn rfl k) hr
theorem oW.dup (K : oK p s m meth c Z own by0 ml ret nm) {x : Value} (hd : decode by0 pc = .ok (.dup, 1)) (hc : x.category = 1) (hp : pc + 1 = pc') (hr : oW p l e R s m args below meth c Z h0 P ds cells slots pc' Ls (x :: x :: S)) : oW p l e R s m args below meth c Z h0 P ds cells slots pc Ls (x :: S) := by
  subst hp
  exact oW.pure (fun T locs X t k => XS.dup X.here K.1.1 rfl (hb K.1.2.2.1 hd) rfl hc k) hr
theorem oW.pop (K : oK p s m meth c Z own by0 ml ret nm) {x : Value} (hd : decode by0 pc = .ok (.pop, 1)) (hc : x.category = 1) (hp : pc + 1 = pc') (hr : oW p l e R s m args below meth c Z h0 P ds cells slots pc' Ls (S)) : oW p l e R s m args below meth c Z h0 P ds cells slots pc Ls (x :: S) := by
  subst hp
  exact oW.pure (fun T locs X t k => XT.pop X.here K.1.1 rfl (hb K.1.2.2.1 hd) rfl hc k) hr
theorem oW.dup2 (K : oK p s m meth c Z own by0 ml ret nm) {x y : Value} (hd : decode by0 pc = .ok (.dup2, 1)) (hc : x.category = 1) (hc' : y.category = 1) (hp : pc + 1 = pc') (hr : oW p l e R s m args below meth c Z h0 P ds cells slots pc' Ls (x :: y :: x :: y :: S)) : oW p l e R s m args below meth c Z h0 P ds cells slots pc Ls (x :: y :: S) := by
  subst hp
  exact oW.pure (fun T locs X t k => XT.dup2 X.here K.1.1 rfl (hb K.1.2.2.1 hd) rfl hc hc' k) hr
theorem oW.dupX1 (K : oK p s m meth c Z own by0 ml ret nm) {x y : Value} (hd : decode by0 pc = .ok (.dup_x1, 1)) (hc : x.category = 1) (hc' : y.category = 1) (hp : pc + 1 = pc') (hr : oW p l e R s m args below meth c Z h0 P ds cells slots pc' Ls (x :: y :: x :: S)) : oW p l e R s m args below meth c Z h0 P ds cells slots pc Ls (x :: y :: S) := by
  subst hp
  exact oW.pure (fun T locs X t k => XT.dupX1 X.here K.1.1 rfl (hb K.1.2.2.1 hd) rfl hc hc' k) hr
theorem oW.goto (K : oK p s m meth c Z own by0 ml ret nm) {o : Int} (hd : decode by0 pc = .ok (.goto o, 3)) (ho : 0 ≤ (pc : Int) + o) (hp : ((pc : Int) + o).toNat = pc') (hr : oW p l e R s m args below meth c Z h0 P ds cells slots pc' Ls S) : oW p l e R s m args below meth c Z h0 P ds cells slots pc Ls S :=
  oW.pure (fun T locs X t k => XS.goto X.here K.1.1 rfl rfl (hb K.1.2.2.1 hd) ho hp k) hr
theorem oW.ifc (K : oK p s m meth c Z own by0 ml ret nm) {cd : ClassFile.Cond} {o : Int} {x : Int32} {pc3 : Nat} (hd : decode by0 pc = .ok (.ifCond cd o, 3)) (ho : 0 ≤ (pc : Int) + o) (hp : ((pc : Int) + o).toNat = pc') (h3 : pc + 3 = pc3) (hy : if_icmp.holds cd x 0 = true → oW p l e R s m args below meth c Z h0 P ds cells slots pc' Ls S) (hn : if_icmp.holds cd x 0 = false → oW p l e R s m args below meth c Z h0 P ds cells slots pc3 Ls S) : oW p l e R s m args below meth c Z h0 P ds cells slots pc Ls (.int x :: S) := by
  subst h3
  cases q : if_icmp.holds cd x 0
  · exact oW.pure (fun T locs X t k => XS.ifNo X.here K.1.1 rfl (hb K.1.2.2.1 hd) rfl ((if0 _ _).trans q) k) (hn q)
  · exact oW.pure (fun T locs X t k => XS.ifYes X.here K.1.1 rfl rfl (hb K.1.2.2.1 hd) rfl ((if0 _ _).trans q) ho hp k) (hy q)
theorem oW.icc (K : oK p s m meth c Z own by0 ml ret nm) {cd : ClassFile.Cond} {o : Int} {x y : Int32} {pc3 : Nat} (hd : decode by0 pc = .ok (.if_icmp cd o, 3)) (ho : 0 ≤ (pc : Int) + o) (hp : ((pc : Int) + o).toNat = pc') (h3 : pc + 3 = pc3) (hy : if_icmp.holds cd x y = true → oW p l e R s m args below meth c Z h0 P ds cells slots pc' Ls S) (hn : if_icmp.holds cd x y = false → oW p l e R s m args below meth c Z h0 P ds cells slots pc3 Ls S) : oW p l e R s m args below meth c Z h0 P ds cells slots pc Ls (.int y :: .int x :: S) := by
  subst h3
  cases q : if_icmp.holds cd x y
  · exact oW.pure (fun T locs X t k => XS.icmpNo X.here K.1.1 rfl (hb K.1.2.2.1 hd) rfl q k) (hn q)
  · exact oW.pure (fun T locs X t k => XS.icmpYes X.here K.1.1 rfl rfl (hb K.1.2.2.1 hd) rfl q ho hp k) (hy q)
theorem oH_lt {x y : Int32} : (if_icmp.holds .lt x y = true → x < y) ∧ (if_icmp.holds .lt x y = false → ¬ x < y) := ⟨fun q => Decidable.byContradiction (fun r => absurd q (by rw [(flt r).1]; decide)), fun q r => absurd q (by rw [(tlt r).1]; decide)⟩
theorem oH_ge {x y : Int32} : (if_icmp.holds .ge x y = true → ¬ x < y) ∧ (if_icmp.holds .ge x y = false → x < y) := ⟨fun q r => absurd q (by rw [(tlt r).2.1]; decide), fun q => Decidable.byContradiction (fun r => absurd q (by rw [(flt r).2.1]; decide))⟩
theorem oH_gt {x y : Int32} : (if_icmp.holds .gt x y = true → y < x) ∧ (if_icmp.holds .gt x y = false → ¬ y < x) := ⟨fun q => Decidable.byContradiction (fun r => absurd q (by rw [(flt r).2.2.1]; decide)), fun q r => absurd q (by rw [(tlt r).2.2.1]; decide)⟩
theorem oH_le {x y : Int32} : (if_icmp.holds .le x y = true → ¬ y < x) ∧ (if_icmp.holds .le x y = false → y < x) := ⟨fun q r => absurd q (by rw [(tlt r).2.2.2]; decide), fun q => Decidable.byContradiction (fun r => absurd q (by rw [(flt r).2.2.2]; decide))⟩
theorem oH_eq {x y : Int32} : (if_icmp.holds .eq x y = true → x = y) ∧ (if_icmp.holds .eq x y = false → ¬ x = y) := ⟨fun q => Decidable.byContradiction (fun r => absurd q (by rw [(feq r).1]; decide)), fun q r => absurd q (by rw [(teq r).1]; decide)⟩
theorem oH_ne {x y : Int32} : (if_icmp.holds .ne x y = true → ¬ x = y) ∧ (if_icmp.holds .ne x y = false → x = y) := ⟨fun q r => absurd q (by rw [(teq r).2]; decide), fun q => Decidable.byContradiction (fun r => absurd q (by rw [(feq r).2]; decide))⟩
theorem oW.if_lt (K : oK p s m meth c Z own by0 ml ret nm) {o : Int} {x : Int32} {pc3 : Nat} (hd : decode by0 pc = .ok (.ifCond .lt o, 3)) (ho : 0 ≤ (pc : Int) + o) (hp : ((pc : Int) + o).toNat = pc') (h3 : pc + 3 = pc3) (hy : x < 0 → oW p l e R s m args below meth c Z h0 P ds cells slots pc' Ls S) (hn : ¬ x < 0 → oW p l e R s m args below meth c Z h0 P ds cells slots pc3 Ls S) : oW p l e R s m args below meth c Z h0 P ds cells slots pc Ls (.int x :: S) :=
  oW.ifc K hd ho hp h3 (fun q => hy (oH_lt.1 q)) (fun q => hn (oH_lt.2 q))
theorem oW.icmp_lt (K : oK p s m meth c Z own by0 ml ret nm) {o : Int} {x y : Int32} {pc3 : Nat} (hd : decode by0 pc = .ok (.if_icmp .lt o, 3)) (ho : 0 ≤ (pc : Int) + o) (hp : ((pc : Int) + o).toNat = pc') (h3 : pc + 3 = pc3) (hy : x < y → oW p l e R s m args below meth c Z h0 P ds cells slots pc' Ls S) (hn : ¬ x < y → oW p l e R s m args below meth c Z h0 P ds cells slots pc3 Ls S) : oW p l e R s m args below meth c Z h0 P ds cells slots pc Ls (.int y :: .int x :: S) :=
  oW.icc K hd ho hp h3 (fun q => hy (oH_lt.1 q)) (fun q => hn (oH_lt.2 q))
theorem oW.if_ge (K : oK p s m meth c Z own by0 ml ret nm) {o : Int} {x : Int32} {pc3 : Nat} (hd : decode by0 pc = .ok (.ifCond .ge o, 3)) (ho : 0 ≤ (pc : Int) + o) (hp : ((pc : Int) + o).toNat = pc') (h3 : pc + 3 = pc3) (hy : ¬ x < 0 → oW p l e R s m args below meth c Z h0 P ds cells slots pc' Ls S) (hn : x < 0 → oW p l e R s m args below meth c Z h0 P ds cells slots pc3 Ls S) : oW p l e R s m args below meth c Z h0 P ds cells slots pc Ls (.int x :: S) :=
  oW.ifc K hd ho hp h3 (fun q => hy (oH_ge.1 q)) (fun q => hn (oH_ge.2 q))
theorem oW.icmp_ge (K : oK p s m meth c Z own by0 ml ret nm) {o : Int} {x y : Int32} {pc3 : Nat} (hd : decode by0 pc = .ok (.if_icmp .ge o, 3)) (ho : 0 ≤ (pc : Int) + o) (hp : ((pc : Int) + o).toNat = pc') (h3 : pc + 3 = pc3) (hy : ¬ x < y → oW p l e R s m args below meth c Z h0 P ds cells slots pc' Ls S) (hn : x < y → oW p l e R s m args below meth c Z h0 P ds cells slots pc3 Ls S) : oW p l e R s m args below meth c Z h0 P ds cells slots pc Ls (.int y :: .int x :: S) :=
  oW.icc K hd ho hp h3 (fun q => hy (oH_ge.1 q)) (fun q => hn (oH_ge.2 q))
theorem oW.if_gt (K : oK p s m meth c Z own by0 ml ret nm) {o : Int} {x : Int32} {pc3 : Nat} (hd : decode by0 pc = .ok (.ifCond .gt o, 3)) (ho : 0 ≤ (pc : Int) + o) (hp : ((pc : Int) + o).toNat = pc') (h3 : pc + 3 = pc3) (hy : 0 < x → oW p l e R s m args below meth c Z h0 P ds cells slots pc' Ls S) (hn : ¬ 0 < x → oW p l e R s m args below meth c Z h0 P ds cells slots pc3 Ls S) : oW p l e R s m args below meth c Z h0 P ds cells slots pc Ls (.int x :: S) :=
  oW.ifc K hd ho hp h3 (fun q => hy (oH_gt.1 q)) (fun q => hn (oH_gt.2 q))
theorem oW.icmp_gt (K : oK p s m meth c Z own by0 ml ret nm) {o : Int} {x y : Int32} {pc3 : Nat} (hd : decode by0 pc = .ok (.if_icmp .gt o, 3)) (ho : 0 ≤ (pc : Int) + o) (hp : ((pc : Int) + o).toNat = pc') (h3 : pc + 3 = pc3) (hy : y < x → oW p l e R s m args below meth c Z h0 P ds cells slots pc' Ls S) (hn : ¬ y < x → oW p l e R s m args below meth c Z h0 P ds cells slots pc3 Ls S) : oW p l e R s m args below meth c Z h0 P ds cells slots pc Ls (.int y :: .int x :: S) :=
  oW.icc K hd ho hp h3 (fun q => hy (oH_gt.1 q)) (fun q => hn (oH_gt.2 q))
theorem oW.if_le (K : oK p s m meth c Z own by0 ml ret nm) {o : Int} {x : Int32} {pc3 : Nat} (hd : decode by0 pc = .ok (.ifCond .le o, 3)) (ho : 0 ≤ (pc : Int) + o) (hp : ((pc : Int) + o).toNat = pc') (h3 : pc + 3 = pc3) (hy : ¬ 0 < x → oW p l e R s m args below meth c Z h0 P ds cells slots pc' Ls S) (hn : 0 < x → oW p l e R s m args below meth c Z h0 P ds cells slots pc3 Ls S) : oW p l e R s m args below meth c Z h0 P ds cells slots pc Ls (.int x :: S) :=
  oW.ifc K hd ho hp h3 (fun q => hy (oH_le.1 q)) (fun q => hn (oH_le.2 q))
theorem oW.icmp_le (K : oK p s m meth c Z own by0 ml ret nm) {o : Int} {x y : Int32} {pc3 : Nat} (hd : decode by0 pc = .ok (.if_icmp .le o, 3)) (ho : 0 ≤ (pc : Int) + o) (hp : ((pc : Int) + o).toNat = pc') (h3 : pc + 3 = pc3) (hy : ¬ y < x → oW p l e R s m args below meth c Z h0 P ds cells slots pc' Ls S) (hn : y < x → oW p l e R s m args below meth c Z h0 P ds cells slots pc3 Ls S) : oW p l e R s m args below meth c Z h0 P ds cells slots pc Ls (.int y :: .int x :: S) :=
  oW.icc K hd ho hp h3 (fun q => hy (oH_le.1 q)) (fun q => hn (oH_le.2 q))
theorem oW.if_eq (K : oK p s m meth c Z own by0 ml ret nm) {o : Int} {x : Int32} {pc3 : Nat} (hd : decode by0 pc = .ok (.ifCond .eq o, 3)) (ho : 0 ≤ (pc : Int) + o) (hp : ((pc : Int) + o).toNat = pc') (h3 : pc + 3 = pc3) (hy : x = 0 → oW p l e R s m args below meth c Z h0 P ds cells slots pc' Ls S) (hn : ¬ x = 0 → oW p l e R s m args below meth c Z h0 P ds cells slots pc3 Ls S) : oW p l e R s m args below meth c Z h0 P ds cells slots pc Ls (.int x :: S) :=
  oW.ifc K hd ho hp h3 (fun q => hy (oH_eq.1 q)) (fun q => hn (oH_eq.2 q))
theorem oW.icmp_eq (K : oK p s m meth c Z own by0 ml ret nm) {o : Int} {x y : Int32} {pc3 : Nat} (hd : decode by0 pc = .ok (.if_icmp .eq o, 3)) (ho : 0 ≤ (pc : Int) + o) (hp : ((pc : Int) + o).toNat = pc') (h3 : pc + 3 = pc3) (hy : x = y → oW p l e R s m args below meth c Z h0 P ds cells slots pc' Ls S) (hn : ¬ x = y → oW p l e R s m args below meth c Z h0 P ds cells slots pc3 Ls S) : oW p l e R s m args below meth c Z h0 P ds cells slots pc Ls (.int y :: .int x :: S) :=
  oW.icc K hd ho hp h3 (fun q => hy (oH_eq.1 q)) (fun q => hn (oH_eq.2 q))
theorem oW.if_ne (K : oK p s m meth c Z own by0 ml ret nm) {o : Int} {x : Int32} {pc3 : Nat} (hd : decode by0 pc = .ok (.ifCond .ne o, 3)) (ho : 0 ≤ (pc : Int) + o) (hp : ((pc : Int) + o).toNat = pc') (h3 : pc + 3 = pc3) (hy : ¬ x = 0 → oW p l e R s m args below meth c Z h0 P ds cells slots pc' Ls S) (hn : x = 0 → oW p l e R s m args below meth c Z h0 P ds cells slots pc3 Ls S) : oW p l e R s m args below meth c Z h0 P ds cells slots pc Ls (.int x :: S) :=
  oW.ifc K hd ho hp h3 (fun q => hy (oH_ne.1 q)) (fun q => hn (oH_ne.2 q))
theorem oW.icmp_ne (K : oK p s m meth c Z own by0 ml ret nm) {o : Int} {x y : Int32} {pc3 : Nat} (hd : decode by0 pc = .ok (.if_icmp .ne o, 3)) (ho : 0 ≤ (pc : Int) + o) (hp : ((pc : Int) + o).toNat = pc') (h3 : pc + 3 = pc3) (hy : ¬ x = y → oW p l e R s m args below meth c Z h0 P ds cells slots pc' Ls S) (hn : x = y → oW p l e R s m args below meth c Z h0 P ds cells slots pc3 Ls S) : oW p l e R s m args below meth c Z h0 P ds cells slots pc Ls (.int y :: .int x :: S) :=
  oW.icc K hd ho hp h3 (fun q => hy (oH_ne.1 q)) (fun q => hn (oH_ne.2 q))
theorem oW.ifnullNo (K : oK p s m meth c Z own by0 ml ret nm) {o : Int} {b : Addr} (hd : decode by0 pc = .ok (.ifnull o, 3)) (hp : pc + 3 = pc') (hr : oW p l e R s m args below meth c Z h0 P ds cells slots pc' Ls S) : oW p l e R s m args below meth c Z h0 P ds cells slots pc Ls (.ref b :: S) := by
  subst hp
  exact oW.pure (fun T locs X t k => XS.ifnullNo X.here K.1.1 rfl (hb K.1.2.2.1 hd) rfl k) hr
theorem oW.ifnullYes (K : oK p s m meth c Z own by0 ml ret nm) {o : Int} (hd : decode by0 pc = .ok (.ifnull o, 3)) (ho : 0 ≤ (pc : Int) + o) (hp : ((pc : Int) + o).toNat = pc') (hr : oW p l e R s m args below meth c Z h0 P ds cells slots pc' Ls S) : oW p l e R s m args below meth c Z h0 P ds cells slots pc Ls (.null :: S) :=
  oW.pure (fun T locs X t k => XS.ifnullYes X.here K.1.1 rfl rfl (hb K.1.2.2.1 hd) rfl ho hp k) hr
theorem oW.ifnonnullYes (K : oK p s m meth c Z own by0 ml ret nm) {o : Int} {b : Addr} (hd : decode by0 pc = .ok (.ifnonnull o, 3)) (ho : 0 ≤ (pc : Int) + o) (hp : ((pc : Int) + o).toNat = pc') (hr : oW p l e R s m args below meth c Z h0 P ds cells slots pc' Ls S) : oW p l e R s m args below meth c Z h0 P ds cells slots pc Ls (.ref b :: S) :=
  oW.pure (fun T locs X t k => XT.ifnonnullYes X.here K.1.1 rfl rfl (hb K.1.2.2.1 hd) rfl ho hp k) hr
theorem oW.ldcI (K : oK p s m meth c Z own by0 ml ret nm) {index : Nat} {v : Int32} (w : (Jvm.Cond.constant own index v).before a0 Z = true) (hd : decode by0 pc = .ok (.ldc index, 2)) (hp : pc + 2 = pc') (hr : oW p l e R s m args below meth c Z h0 P ds cells slots pc' Ls (.int v :: S)) : oW p l e R s m args below meth c Z h0 P ds cells slots pc Ls S := by
  subst hp
  exact oW.pure (fun T locs X t k => X.ldcInt K.1.1 K.2.1 (mv K.1.2.1 w) (g := mkF m pc Ls S) rfl (hb K.1.2.2.1 hd) t k) hr
theorem oW.ldc2D (K : oK p s m meth c Z own by0 ml ret nm) {index : Nat} {v : UInt64} (w : (Jvm.Cond.constantDouble own index v).before a0 Z = true) (hd : decode by0 pc = .ok (.ldc2_w index, 3)) (hp : pc + 3 = pc') (hr : oW p l e R s m args below meth c Z h0 P ds cells slots pc' Ls (.double v :: S)) : oW p l e R s m args below meth c Z h0 P ds cells slots pc Ls S := by
  subst hp
  exact oW.pure (fun T locs X t k => X.ldc2DoubleC K.1.1 K.2.1 (mv K.1.2.1 w) (g := mkF m pc Ls S) rfl (hb K.1.2.2.1 hd) t k) hr
theorem oW.ldc2L (K : oK p s m meth c Z own by0 ml ret nm) {index : Nat} {v : Int64} (w : (Jvm.Cond.constantLong own index v).before a0 Z = true) (hd : decode by0 pc = .ok (.ldc2_w index, 3)) (hp : pc + 3 = pc') (hr : oW p l e R s m args below meth c Z h0 P ds cells slots pc' Ls (.long v :: S)) : oW p l e R s m args below meth c Z h0 P ds cells slots pc Ls S := by
  subst hp
  exact oW.pure (fun T locs X t k => X.ldc2Long K.1.1 K.2.1 (mv K.1.2.1 w) (g := mkF m pc Ls S) rfl (hb K.1.2.2.1 hd) t k) hr
theorem oLen {vs : List Value} {j : Int32} {k : Nat} {v : Value} {c : Cell} (hj : j = Int32.ofNat k) (hk : k < 2 ^ 31) (hv : vs[k]? = some v) (hs : c.slots = vs.toArray) : ¬ (j < 0 ∨ c.slots.size ≤ j.toNatClampNeg) ∧ c.slots[j.toNatClampNeg]? = some v := by
  subst hj
  have e : (Int32.ofNat k).toNatClampNeg = k := Int32.toNatClampNeg_ofNat_of_lt hk
  have l := (List.getElem?_eq_some_iff.mp hv).1
  rw [e, hs]
  refine ⟨fun q => q.elim (Int32.ofNat_not_neg hk) (fun r => by simp at r; omega), by simpa using hv⟩
theorem oW.iaload (K : oK p s m meth c Z own by0 ml ret nm) {i k : Nat} {a : Addr} {vs : List Value} {j : Int32} {v : Value} (hd : decode by0 pc = .ok (.iaload, 1)) (hi : ds[i]? = some (a, .inl (.int, vs))) (hj : j = Int32.ofNat k) (hk : k < 2 ^ 31) (hv : vs[k]? = some v) (hp : pc + 1 = pc') (hr : oW p l e R s m args below meth c Z h0 P ds cells slots pc' Ls (v :: S)) : oW p l e R s m args below meth c Z h0 P ds cells slots pc Ls (.int j :: .ref a :: S) := by
  subst hp
  rintro T ⟨locs, X, N, M⟩
  obtain ⟨cl, A, hs⟩ := (M.2.2 i _ hi).2
  obtain ⟨q1, q2⟩ := oLen hj hk hv hs
  exact oW.ends (fun t k => X.iaload K.1.1 A.1 (State.isArrayOf_alike K.1.2.1.alike A.2.1) A.2.2 q1 q2 (g := mkF m pc Ls (.int j :: .ref a :: S)) rfl rfl (hb K.1.2.2.1 hd) t k) (hr T ⟨locs, X, N, M⟩)
theorem oW.daload (K : oK p s m meth c Z own by0 ml ret nm) {i k : Nat} {a : Addr} {vs : List Value} {j : Int32} {v : Value} (hd : decode by0 pc = .ok (.daload, 1)) (hi : ds[i]? = some (a, .inl (.double, vs))) (hj : j = Int32.ofNat k) (hk : k < 2 ^ 31) (hv : vs[k]? = some v) (hp : pc + 1 = pc') (hr : oW p l e R s m args below meth c Z h0 P ds cells slots pc' Ls (v :: S)) : oW p l e R s m args below meth c Z h0 P ds cells slots pc Ls (.int j :: .ref a :: S) := by
  subst hp
  rintro T ⟨locs, X, N, M⟩
  obtain ⟨cl, A, hs⟩ := (M.2.2 i _ hi).2
  obtain ⟨q1, q2⟩ := oLen hj hk hv hs
  exact oW.ends (fun t k => X.daload K.1.1 A.1 (State.isArrayOf_alike K.1.2.1.alike A.2.1) A.2.2 q1 q2 (g := mkF m pc Ls (.int j :: .ref a :: S)) rfl rfl (hb K.1.2.2.1 hd) t k) (hr T ⟨locs, X, N, M⟩)
theorem oW.laload (K : oK p s m meth c Z own by0 ml ret nm) {i k : Nat} {a : Addr} {vs : List Value} {j : Int32} {v : Value} (hd : decode by0 pc = .ok (.laload, 1)) (hi : ds[i]? = some (a, .inl (.long, vs))) (hj : j = Int32.ofNat k) (hk : k < 2 ^ 31) (hv : vs[k]? = some v) (hp : pc + 1 = pc') (hr : oW p l e R s m args below meth c Z h0 P ds cells slots pc' Ls (v :: S)) : oW p l e R s m args below meth c Z h0 P ds cells slots pc Ls (.int j :: .ref a :: S) := by
  subst hp
  rintro T ⟨locs, X, N, M⟩
  obtain ⟨cl, A, hs⟩ := (M.2.2 i _ hi).2
  obtain ⟨q1, q2⟩ := oLen hj hk hv hs
  exact oW.ends (fun t k => X.laload K.1.1 A.1 (State.isArrayOf_alike K.1.2.1.alike A.2.1) A.2.2 q1 q2 (g := mkF m pc Ls (.int j :: .ref a :: S)) rfl rfl (hb K.1.2.2.1 hd) t k) (hr T ⟨locs, X, N, M⟩)
theorem oW.iastore (K : oK p s m meth c Z own by0 ml ret nm) {i k : Nat} {a : Addr} {vs : List Value} {j : Int32} {x : Int32} (hd : decode by0 pc = .ok (.iastore, 1)) (hi : ds[i]? = some (a, .inl (.int, vs))) (hj : j = Int32.ofNat k) (hk : k < 2 ^ 31) (hl : k < vs.length) (hds : ds.set i (a, .inl (.int, vs.set k (.int x))) = ds') (hp : pc + 1 = pc') (hr : oW p l e R s m args below meth c Z h0 P ds' cells slots pc' Ls S) : oW p l e R s m args below meth c Z h0 P ds cells slots pc Ls (.int x :: .int j :: .ref a :: S) := by
  subst hp hds
  rintro T ⟨locs, X, N, M⟩
  obtain ⟨ha, cl, A, hs⟩ := M.2.2 i _ hi
  obtain ⟨q1, q2⟩ := oLen hj hk (List.getElem?_eq_getElem hl) hs
  obtain ⟨T', h', X', e', Wr', st⟩ := stI X K.1.1 K.1.2.1 rfl A (x := x) q1 (g := mkF m pc Ls (.int x :: .int j :: .ref a :: S)) rfl rfl (hb K.1.2.2.1 hd)
  have ek : j.toNatClampNeg = k := by subst hj; exact Int32.toNatClampNeg_ofNat_of_lt hk
  refine oW.ends st (hr T' ⟨_, X', Fr.snoc X' N ha, ?_⟩)
  rw [e']
  refine M.put hi Wr' ⟨_, A.same Wr', ?_⟩
  rw [ek]; simp [Cell.setSlot, hs]
theorem oW.dastore (K : oK p s m meth c Z own by0 ml ret nm) {i k : Nat} {a : Addr} {vs : List Value} {j : Int32} {x : UInt64} (hd : decode by0 pc = .ok (.dastore, 1)) (hi : ds[i]? = some (a, .inl (.double, vs))) (hj : j = Int32.ofNat k) (hk : k < 2 ^ 31) (hl : k < vs.length) (hds : ds.set i (a, .inl (.double, vs.set k (.double x))) = ds') (hp : pc + 1 = pc') (hr : oW p l e R s m args below meth c Z h0 P ds' cells slots pc' Ls S) : oW p l e R s m args below meth c Z h0 P ds cells slots pc Ls (.double x :: .int j :: .ref a :: S) := by
  subst hp hds
  rintro T ⟨locs, X, N, M⟩
  obtain ⟨ha, cl, A, hs⟩ := M.2.2 i _ hi
  obtain ⟨q1, q2⟩ := oLen hj hk (List.getElem?_eq_getElem hl) hs
  obtain ⟨T', h', X', e', Wr', st⟩ := stD X K.1.1 K.1.2.1 rfl A (x := x) q1 (g := mkF m pc Ls (.double x :: .int j :: .ref a :: S)) rfl rfl (hb K.1.2.2.1 hd)
  have ek : j.toNatClampNeg = k := by subst hj; exact Int32.toNatClampNeg_ofNat_of_lt hk
  refine oW.ends st (hr T' ⟨_, X', Fr.snoc X' N ha, ?_⟩)
  rw [e']
  refine M.put hi Wr' ⟨_, A.same Wr', ?_⟩
  rw [ek]; simp [Cell.setSlot, hs]
theorem oW.lastore (K : oK p s m meth c Z own by0 ml ret nm) {i k : Nat} {a : Addr} {vs : List Value} {j : Int32} {x : Int64} (hd : decode by0 pc = .ok (.lastore, 1)) (hi : ds[i]? = some (a, .inl (.long, vs))) (hj : j = Int32.ofNat k) (hk : k < 2 ^ 31) (hl : k < vs.length) (hds : ds.set i (a, .inl (.long, vs.set k (.long x))) = ds') (hp : pc + 1 = pc') (hr : oW p l e R s m args below meth c Z h0 P ds' cells slots pc' Ls S) : oW p l e R s m args below meth c Z h0 P ds cells slots pc Ls (.long x :: .int j :: .ref a :: S) := by
  subst hp hds
  rintro T ⟨locs, X, N, M⟩
  obtain ⟨ha, cl, A, hs⟩ := M.2.2 i _ hi
  obtain ⟨q1, q2⟩ := oLen hj hk (List.getElem?_eq_getElem hl) hs
  obtain ⟨T', h', X', e', Wr', st⟩ := stJ X K.1.1 K.1.2.1 rfl A (x := x) q1 (g := mkF m pc Ls (.long x :: .int j :: .ref a :: S)) rfl rfl (hb K.1.2.2.1 hd)
  have ek : j.toNatClampNeg = k := by subst hj; exact Int32.toNatClampNeg_ofNat_of_lt hk
  refine oW.ends st (hr T' ⟨_, X', Fr.snoc X' N ha, ?_⟩)
  rw [e']
  refine M.put hi Wr' ⟨_, A.same Wr', ?_⟩
  rw [ek]; simp [Cell.setSlot, hs]
theorem oW.alen (K : oK p s m meth c Z own by0 ml ret nm) {i : Nat} {a : Addr} {ty : FieldType} {vs : List Value} {v : Int32} (hd : decode by0 pc = .ok (.arraylength, 1)) (hi : ds[i]? = some (a, .inl (ty, vs))) (hv : v = Int32.ofNat vs.length) (hp : pc + 1 = pc') (hr : oW p l e R s m args below meth c Z h0 P ds cells slots pc' Ls (.int v :: S)) : oW p l e R s m args below meth c Z h0 P ds cells slots pc Ls (.ref a :: S) := by
  subst hp
  rintro T ⟨locs, X, N, M⟩
  obtain ⟨cl, A, hs⟩ := (M.2.2 i _ hi).2
  have ev : v = cl.slots.size.toInt32 := by rw [hv, hs]; simp
  subst ev
  exact oW.ends (fun t k => X.arraylength K.1.1 A.1 (State.isArrayOf_alike K.1.2.1.alike A.2.1) (g := mkF m pc Ls (.ref a :: S)) rfl rfl (hb K.1.2.2.1 hd) t k) (hr T ⟨locs, X, N, M⟩)
theorem oW.newarr (K : oK p s m meth c Z own by0 ml ret nm) {aty : ArrayType} {j : Int32} {n : Nat} (w : (Jvm.Cond.arrayClass (newarray.typeOf aty)).before a0 Z = true) (hd : decode by0 pc = .ok (.newarray aty, 2)) (hj : j = Int32.ofNat n) (hn : n < 2 ^ 31) (hb8 : n * 8 ≤ 536870912) (hc : cells + 1 ≤ R.cells) (hs : slots + n ≤ R.slots) {cells' slots' : Nat} (hc' : cells + 1 = cells') (hs' : slots + n = slots') {dsf : Addr → oDs} (hds : ∀ a, ds ++ [(a, .inl (newarray.typeOf aty, List.replicate n (defaultValue (newarray.typeOf aty))))] = dsf a) (hp : pc + 2 = pc')
    (hr : ∀ a : Addr, h0.size ≤ a → oW p l e R s m args below meth c Z h0 P (dsf a) cells' slots' pc' Ls (.ref a :: S)) : oW p l e R s m args below meth c Z h0 P ds cells slots pc Ls (.int j :: S) := by
  subst hp hc' hs'
  rintro T ⟨locs, X, N, M⟩
  have ej : j.toNatClampNeg = n := by subst hj; exact Int32.toNatClampNeg_ofNat_of_lt hn
  obtain ⟨T', h', k, X', e', E', A', st⟩ := newP X K.1.1 K.1.2.1 w rfl (g := mkF m pc Ls (.int j :: S)) rfl (hb K.1.2.2.1 hd) rfl (by subst hj; exact Int32.ofNat_not_neg hn) (cap := n) (Nat.le_of_eq ej) hb8 hc hs
  refine oW.ends st (hr T.heap.size M.1.1 T' ⟨_, X', N, ?_⟩)
  rw [e', ← hds]
  refine M.push E' ⟨_, A', ?_⟩
  simp [newA, ej]
theorem oW.new (K : oK p s m meth c Z own by0 ml ret nm) {index n : Nat} {C : String} {fs : List (String × String × String × Value)} (w : (Jvm.Cond.classLink own index C).before a0 Z = true) (wi : (Jvm.Cond.instantiable C n).before a0 Z = true) (wz : (Jvm.Cond.initialized C).before a0 Z = true) (hL : ∀ f ∈ fs, Laid Z a0 C f.1 f.2.1 f.2.2.1 ∧ ∃ t, parseFieldDescriptor f.2.2.1 = some t ∧ f.2.2.2 = defaultValue t) (hd : decode by0 pc = .ok (.new index, 3)) (hc : cells + 1 ≤ R.cells) (hs : slots + n ≤ R.slots) {cells' slots' : Nat} (hc' : cells + 1 = cells') (hs' : slots + n = slots') {dsf : Addr → oDs} (hds : ∀ a, ds ++ [(a, .inr (C, fs))] = dsf a) (hp : pc + 3 = pc')
    (hr : ∀ a : Addr, h0.size ≤ a → oW p l e R s m args below meth c Z h0 P (dsf a) cells' slots' pc' Ls (.ref a :: S)) : oW p l e R s m args below meth c Z h0 P ds cells slots pc Ls S := by
  subst hp hc' hs'
  rintro T ⟨locs, X, N, M⟩
  obtain ⟨T', h', X', e', E', A', D', -, st⟩ := newO X K.1.1 K.1.2.1 K.2.1 w wi wz rfl (g := mkF m pc Ls S) rfl (hb K.1.2.2.1 hd) hc hs
  refine oW.ends st (hr T.heap.size M.1.1 T' ⟨_, X', N, ?_⟩)
  rw [e', ← hds]
  refine M.push E' ⟨A', fun f hf => ?_⟩
  obtain ⟨L, t, h1, h2⟩ := hL f hf
  rw [h2]; exact D' L h1
theorem oW.getf (K : oK p s m meth c Z own by0 ml ret nm) {index i q : Nat} {a : Addr} {C O n d : String} {fs : List (String × String × String × Value)} {v : Value} (w : (Jvm.Cond.fieldLink own index O n d).before a0 Z = true) (hd : decode by0 pc = .ok (.getfield index, 3)) (hi : ds[i]? = some (a, .inr (C, fs))) (hf : fs[q]? = some (O, n, d, v)) (hp : pc + 3 = pc') (hr : oW p l e R s m args below meth c Z h0 P ds cells slots pc' Ls (v :: S)) : oW p l e R s m args below meth c Z h0 P ds cells slots pc Ls (.ref a :: S) := by
  subst hp
  rintro T ⟨locs, X, N, M⟩
  obtain ⟨ha, hE, hF⟩ := M.2.2 i _ hi
  obtain ⟨T', X', e', st⟩ := getF X K.1.1 K.1.2.1 K.2.1 (host := "") (Or.inl w) Via.refl rfl (hF _ (List.mem_of_getElem? hf)) (g := mkF m pc Ls (.ref a :: S)) rfl rfl (hb K.1.2.2.1 hd)
  exact oW.ends st (hr T' ⟨_, X', N, by rw [e']; exact M⟩)
theorem oW.putf (K : oK p s m meth c Z own by0 ml ret nm) {index i q kk : Nat} {a : Addr} {C O n d : String} {fs : List (String × String × String × Value)} {v old : Value} {ty : FieldType} (w : (Jvm.Cond.fieldLink own index O n d).before a0 Z = true) (L : (Jvm.Cond.lays C O n d).before a0 Z = true ∨ ((Jvm.Cond.laysFinal C O n d).before a0 Z = true ∧ own = O ∧ nm = "<init>")) (wi : (Jvm.Cond.instantiable C kk).before a0 Z = true) (hap : oApart Z fs) (hd : decode by0 pc = .ok (.putfield index, 3)) (hi : ds[i]? = some (a, .inr (C, fs))) (hf : fs[q]? = some (O, n, d, old)) (hty : parseFieldDescriptor d = some ty) (hn : narrow ty v = v) (hfit : fits ty v = true) (hds : ds.set i (a, .inr (C, fs.set q (O, n, d, v))) = ds') (hp : pc + 3 = pc') (hr : oW p l e R s m args below meth c Z h0 P ds' cells slots pc' Ls S) : oW p l e R s m args below meth c Z h0 P ds cells slots pc Ls (v :: .ref a :: S) := by
  subst hp hds
  rintro T ⟨locs, X, N, M⟩
  obtain ⟨ha, hE, hF⟩ := M.2.2 i _ hi
  have hFq := hF _ (List.mem_of_getElem? hf)
  obtain ⟨T', h', X', e', Wr', st⟩ := putF X K.1.1 K.1.2.1 K.2.1 (host := "") (Or.inl w) Via.refl rfl hFq hE (L.imp id fun r => ⟨r.1, r.2.1, K.2.2.2.2.trans r.2.2⟩) wi hty hn hfit (g := mkF m pc Ls (v :: .ref a :: S)) rfl rfl (hb K.1.2.2.1 hd)
  refine oW.ends st (hr T' ⟨_, X', Fr.snoc X' N ha, ?_⟩)
  rw [e']
  refine M.put hi Wr' ⟨hE.wr Wr', fun f hf' => ?_⟩
  obtain ⟨r, hr'⟩ := List.getElem?_of_mem hf'
  rw [List.getElem?_set] at hr'
  split at hr'
  · rename_i er
    subst er
    rw [if_pos (List.getElem?_eq_some_iff.mp hf).1] at hr'
    cases hr'
    exact hFq.same Wr'
  · rename_i er
    have hh := hap r q f (O, n, d, old) (Ne.symm er) hr' hf
    exact (hF f (List.mem_of_getElem? hr')).other Wr' (Or.inr hh)
theorem oW.getst (K : oK p s m meth c Z own by0 ml ret nm) {index : Nat} {O n d : String} {v : Value} (w : (Jvm.Cond.fieldLink own index O n d).before a0 Z = true) (F : Sta Z h0 O n d v) (hd : decode by0 pc = .ok (.getstatic index, 3)) (hp : pc + 3 = pc') (hr : oW p l e R s m args below meth c Z h0 P ds cells slots pc' Ls (v :: S)) : oW p l e R s m args below meth c Z h0 P ds cells slots pc Ls S := by
  subst hp
  rintro T ⟨locs, X, N, M⟩
  obtain ⟨T', X', e', st⟩ := getS2 X K.1.1 K.1.2.1 K.2.1 (host := "") (Or.inl w) Via.refl rfl (F.ext M.1) (g := mkF m pc Ls S) rfl (hb K.1.2.2.1 hd)
  exact oW.ends st (hr T' ⟨_, X', N, by rw [e']; exact M⟩)
theorem oW.initO (K : oK p s m meth c Z own by0 ml ret nm) {idx : Nat} {a : Addr} {W : Nat} (w1 : (Jvm.Cond.methodLink own idx Lib.objectInit).before a0 Z = true) (w2 : (Jvm.Cond.instanceMethod Lib.objectInit).before a0 Z = true) (w3 : (Jvm.Cond.code Lib.objectInit ⟨#[0xb1]⟩ 1 none).before a0 Z = true) (hd : decode by0 pc = .ok (.invokespecial idx, 3)) (hsz : Ls.size = ml) (hf : 1 ≤ R.frames) (hW : (S.map fun v => v.category).sum ≤ W) (hl : W + 12 ≤ R.locals) (hp : pc + 3 = pc') (hr : oW p l e R s m args below meth c Z h0 P ds cells slots pc' Ls S) : oW p l e R s m args below meth c Z h0 P ds cells slots pc Ls (.ref a :: S) := by
  subst hp
  rintro T ⟨locs, X, N, M⟩
  obtain ⟨T', X', e', st⟩ := Jvm.RoadKit.initO X K.1.1 K.1.2.1 K.2.1 w1 w2 w3 rfl (g := mkF m pc Ls (.ref a :: S)) rfl (hsz.trans K.1.2.2.2.symm) rfl (hb K.1.2.2.1 hd) hf (W := W) (by show 2 * 0 + _ ≤ _; omega) hl
  exact oW.ends st (hr T' ⟨_, X', N, by rw [e']; exact M⟩)
theorem oW.leave (K : oK p s m meth c Z own by0 ml ret nm) {v : Option Value} (hv : ret = none → v = none) (hc : cells ≤ R.cells) (hs : slots ≤ R.slots) (hP : P v ds)
    (st : ∀ (T : State) (locs : List Loc) (fs : List Frame), Stand p l e R s m args below meth c T locs cells slots → (∀ (f : JFrame) (acts : List Action), f.method = m → f.locked = none → f.entered = [] → (doReturn e (T.setTop f) acts v).1 = T.setFrames fs) → Steps p.tables e below (T.setTop (mkF m pc Ls S)) (T.setFrames fs)) : oW p l e R s m args below meth c Z h0 P ds cells slots pc Ls S := by
  rintro T ⟨locs, X, N, M⟩
  obtain ⟨fs, hr, hrun, hended, hW, hsame⟩ := X.leave (v := v) (fun h => hv (K.2.2.1.symm.trans h)) K.2.2.2.1
  exact ⟨_, _, st T locs fs X hr, hrun, hended, v, locs, rfl, ⟨N, ds, hP, M⟩, ⟨_, rfl⟩, hW, hsame.mono hc hs⟩
theorem oW.retB (K : oK p s m meth c Z own by0 ml ret nm) {z : Int32} (hret : ret = some .boolean) (hd : decode by0 pc = .ok (.ireturn, 1)) (hc : cells ≤ R.cells) (hs : slots ≤ R.slots) (hP : P (some (.int (nar .boolean z))) ds) : oW p l e R s m args below meth c Z h0 P ds cells slots pc Ls (.int z :: S) :=
  oW.leave K (by rw [hret]; intro h; cases h) hc hs hP fun T locs fs X hr => retN X K.1.1 (t := .boolean) (K.2.2.1.trans hret) (Or.inl rfl) (hb K.1.2.2.1 hd) hr
theorem oW.retI (K : oK p s m meth c Z own by0 ml ret nm) {z : Int32} (hret : ret = some .int) (hd : decode by0 pc = .ok (.ireturn, 1)) (hc : cells ≤ R.cells) (hs : slots ≤ R.slots) (hP : P (some (.int z)) ds) : oW p l e R s m args below meth c Z h0 P ds cells slots pc Ls (.int z :: S) :=
  oW.leave K (by rw [hret]; intro h; cases h) hc hs hP fun T locs fs X hr => retOut X K.1.1 (K.2.2.1.trans hret) rfl (Or.inl ⟨rfl, Or.inl rfl, _, rfl⟩) (hb K.1.2.2.1 hd) hr
theorem oW.retJ (K : oK p s m meth c Z own by0 ml ret nm) {z : Int64} (hret : ret = some .long) (hd : decode by0 pc = .ok (.lreturn, 1)) (hc : cells ≤ R.cells) (hs : slots ≤ R.slots) (hP : P (some (.long z)) ds) : oW p l e R s m args below meth c Z h0 P ds cells slots pc Ls (.long z :: S) :=
  oW.leave K (by rw [hret]; intro h; cases h) hc hs hP fun T locs fs X hr => retOut X K.1.1 (K.2.2.1.trans hret) rfl (Or.inr (Or.inl ⟨rfl, rfl, _, rfl⟩)) (hb K.1.2.2.1 hd) hr
theorem oW.retD (K : oK p s m meth c Z own by0 ml ret nm) {z : UInt64} (hret : ret = some .double) (hd : decode by0 pc = .ok (.dreturn, 1)) (hc : cells ≤ R.cells) (hs : slots ≤ R.slots) (hP : P (some (.double z)) ds) : oW p l e R s m args below meth c Z h0 P ds cells slots pc Ls (.double z :: S) :=
  oW.leave K (by rw [hret]; intro h; cases h) hc hs hP fun T locs fs X hr => retOut X K.1.1 (K.2.2.1.trans hret) rfl (Or.inr (Or.inr (Or.inl ⟨rfl, rfl, _, rfl⟩))) (hb K.1.2.2.1 hd) hr
theorem oW.retA (K : oK p s m meth c Z own by0 ml ret nm) {a : Addr} {t : FieldType} (hret : ret = some t) (ht : t.isReference = true) (hn : narrow t (.ref a) = .ref a) (hd : decode by0 pc = .ok (.areturn, 1)) (hc : cells ≤ R.cells) (hs : slots ≤ R.slots) (hP : P (some (.ref a)) ds) : oW p l e R s m args below meth c Z h0 P ds cells slots pc Ls (.ref a :: S) :=
  oW.leave K (by rw [hret]; intro h; cases h) hc hs hP fun T locs fs X hr => retOut X K.1.1 (K.2.2.1.trans hret) hn (Or.inr (Or.inr (Or.inr (Or.inr ⟨rfl, ht, rfl⟩)))) (hb K.1.2.2.1 hd) hr
theorem oW.retV (K : oK p s m meth c Z own by0 ml ret nm) (hret : ret = none) (hd : decode by0 pc = .ok (.return_, 1)) (hc : cells ≤ R.cells) (hs : slots ≤ R.slots) (hP : P none ds) : oW p l e R s m args below meth c Z h0 P ds cells slots pc Ls [] :=
  oW.leave K (fun _ => rfl) hc hs hP fun T locs fs X hr => X.returnOut K.1.1 (K.2.2.1.trans hret) (hb K.1.2.2.1 hd) hr
theorem oW.callS (K : oK p s m meth c Z own by0 ml ret nm) {y : MethodName} {index : Nat} {by1 : ByteArray} {ml1 : Nat} {rt1 : Option FieldType} {rm : Room} {argsL : List Value} {P2 : Value → oDs → Prop} {W : Nat} {cells' slots' : Nat}
    (w1 : (Jvm.Cond.methodLink own index y).before a0 Z = true) (w2 : (Jvm.Cond.static y).before a0 Z = true) (w3 : (Jvm.Cond.initialized y.cls).before a0 Z = true) (w4 : (Jvm.Cond.code y by1 ml1 rt1).before a0 Z = true) (hy : y.cls ≠ "java/lang/invoke/MethodHandle" ∧ y.cls ≠ "java/lang/invoke/VarHandle")
    (C : oCtr l Z h0 [] y by1 ml1 rt1 rm argsL.toArray ds (oVal P2)) (hlen : ∀ sig, parseMethodDescriptor y.desc = some sig → argsL.length = sig.parameters.length) (hd : decode by0 pc = .ok (.invokestatic index, 3)) (hst : S' = argsL.reverse ++ S) (hsz : Ls.size = ml) (hW : (S.map fun v => v.category).sum ≤ W) (hf : rm.frames + 1 ≤ R.frames) (hl : W + (ml1 + 11) + rm.locals ≤ R.locals) (hc : cells + rm.cells ≤ R.cells) (hs : slots + rm.slots ≤ R.slots) (hc' : cells + rm.cells = cells') (hs' : slots + rm.slots = slots') (hp : pc + 3 = pc')
    (hr : ∀ w ds', P2 w ds' → oW p l e R s m args below meth c Z h0 P ds' cells' slots' pc' Ls (w :: S)) : oW p l e R s m args below meth c Z h0 P ds cells slots pc Ls S' := by
  subst hp hst hc' hs'
  rintro T ⟨locs, X, N, M⟩
  obtain ⟨v, vm1, ⟨T', L', k', n'⟩, -, X', ⟨Lc, hQ, l', y', z'⟩, st⟩ := Jvm.LawKit.callS X K.1.1 K.2.1 (mvT K.1.2.1 w1) (mvT K.1.2.1 w2) (mvT K.1.2.1 w3) (mvT K.1.2.1 w4) hy (backOf (W := W) (Q := fun v hp L => Fr h0.size L ∧ ∃ ds', (oVal P2) v ds' ∧ oMem Z h0 hp ds') (C T.heap M) K.1.2.1 w4 w3 hf hl) (g := mkF m pc Ls (argsL.reverse ++ S)) rfl (hsz.trans K.1.2.2.2.symm) (argsL := argsL) (rest := S) hlen rfl (by show 2 * 0 + _ ≤ _; omega) (hb K.1.2.2.1 hd) (fun _ _ => ⟨rfl, rfl, hc, hs⟩)
  dsimp only [Pt.U, Pt.locs, Pt.cells, Pt.slots] at X' l' y' z' st hQ
  subst l' y' z'
  obtain ⟨N', ds', hP, M'⟩ := hQ
  obtain ⟨w, rfl, hP⟩ := hP
  exact oW.ends st (hr w ds' hP T' ⟨_, X', N.app N', M'⟩)
theorem oW.callV (K : oK p s m meth c Z own by0 ml ret nm) {y z : MethodName} {C : String} {index : Nat} {by1 : ByteArray} {ml1 : Nat} {rt1 : Option FieldType} {rm : Room} {a : Addr} {argsL : List Value} {P2 : Value → oDs → Prop} {W : Nat} {cells' slots' : Nat}
    (w1 : (Jvm.Cond.methodLink own index y).before a0 Z = true) (w2 : (Jvm.Cond.declares y).before a0 Z = true) (w3 : (Jvm.Cond.selects C y z).before a0 Z = true) (w4 : (Jvm.Cond.instanceMethod z).before a0 Z = true) (w5 : (Jvm.Cond.code z by1 ml1 rt1).before a0 Z = true) (w6 : (Jvm.Cond.initialized z.cls).before a0 Z = true) (hy : y.cls ≠ "java/lang/invoke/MethodHandle" ∧ y.cls ≠ "java/lang/invoke/VarHandle")
    (hnf : ∀ s : State, Z.Warmed39 s.vm → NotFace s y) (hE : ∀ h, oMem Z h0 h ds → Exa Z h a C) (Ct : oCtr l Z h0 [] z by1 ml1 rt1 rm (.ref a :: argsL).toArray ds (oVal P2)) (hlen : ∀ sig, parseMethodDescriptor y.desc = some sig → argsL.length = sig.parameters.length) (hd : decode by0 pc = .ok (.invokevirtual index, 3)) (hst : S' = argsL.reverse ++ .ref a :: S) (hsz : Ls.size = ml) (hW : (S.map fun v => v.category).sum ≤ W) (hf : rm.frames + 1 ≤ R.frames) (hl : W + (ml1 + 11) + rm.locals ≤ R.locals) (hc : cells + rm.cells ≤ R.cells) (hs : slots + rm.slots ≤ R.slots) (hc' : cells + rm.cells = cells') (hs' : slots + rm.slots = slots') (hp : pc + 3 = pc')
    (hr : ∀ w ds', P2 w ds' → oW p l e R s m args below meth c Z h0 P ds' cells' slots' pc' Ls (w :: S)) : oW p l e R s m args below meth c Z h0 P ds cells slots pc Ls S' := by
  subst hp hst hc' hs'
  rintro T ⟨locs, X, N, M⟩
  obtain ⟨cq, kq, qa, qb, qc⟩ := isOf K.1.2.1 rfl (hE T.heap M)
  have w3' : (Jvm.Cond.selects C y z).before args s = true := mvT K.1.2.1 w3
  obtain ⟨v, vm1, ⟨T', L', k', n'⟩, -, X', ⟨Lc, hQ, l', y', z'⟩, st⟩ := X.virtualBack K.1.1 K.2.1 (mvT K.1.2.1 w1) (mvT K.1.2.1 w2) (hnf s K.1.2.1) w3' (mvT K.1.2.1 w4) hy (backOf (W := W) (Q := fun v hp L => Fr h0.size L ∧ ∃ ds', (oVal P2) v ds' ∧ oMem Z h0 hp ds') (Ct T.heap M) K.1.2.1 w5 w6 hf hl) qa qc (g := mkF m pc Ls (argsL.reverse ++ .ref a :: S)) rfl (hsz.trans K.1.2.2.2.symm) (Steps.refl _) (argsL := argsL) (rest := S) hlen rfl (by show 2 * 0 + _ ≤ _; omega) (hb K.1.2.2.1 hd) (fun _ _ => ⟨rfl, rfl, hc, hs⟩)
  dsimp only [Pt.U, Pt.locs, Pt.cells, Pt.slots] at X' l' y' z' st hQ
  subst l' y' z'
  obtain ⟨N', ds', hP, M'⟩ := hQ
  obtain ⟨w, rfl, hP⟩ := hP
  exact oW.ends (fun t k => st.trans k) (hr w ds' hP T' ⟨_, X', N.app N', M'⟩)
theorem oW.callS0 (K : oK p s m meth c Z own by0 ml ret nm) {y : MethodName} {index : Nat} {by1 : ByteArray} {ml1 : Nat} {rt1 : Option FieldType} {rm : Room} {argsL : List Value} {P2 : oDs → Prop} {W : Nat} {cells' slots' : Nat}
    (w1 : (Jvm.Cond.methodLink own index y).before a0 Z = true) (w2 : (Jvm.Cond.static y).before a0 Z = true) (w3 : (Jvm.Cond.initialized y.cls).before a0 Z = true) (w4 : (Jvm.Cond.code y by1 ml1 rt1).before a0 Z = true) (hy : y.cls ≠ "java/lang/invoke/MethodHandle" ∧ y.cls ≠ "java/lang/invoke/VarHandle")
    (C : oCtr l Z h0 [] y by1 ml1 rt1 rm argsL.toArray ds (oVoid P2)) (hlen : ∀ sig, parseMethodDescriptor y.desc = some sig → argsL.length = sig.parameters.length) (hd : decode by0 pc = .ok (.invokestatic index, 3)) (hst : S' = argsL.reverse ++ S) (hsz : Ls.size = ml) (hW : (S.map fun v => v.category).sum ≤ W) (hf : rm.frames + 1 ≤ R.frames) (hl : W + (ml1 + 11) + rm.locals ≤ R.locals) (hc : cells + rm.cells ≤ R.cells) (hs : slots + rm.slots ≤ R.slots) (hc' : cells + rm.cells = cells') (hs' : slots + rm.slots = slots') (hp : pc + 3 = pc')
    (hr : ∀ ds', P2 ds' → oW p l e R s m args below meth c Z h0 P ds' cells' slots' pc' Ls S) : oW p l e R s m args below meth c Z h0 P ds cells slots pc Ls S' := by
  subst hp hst hc' hs'
  rintro T ⟨locs, X, N, M⟩
  obtain ⟨v, vm1, ⟨T', L', k', n'⟩, -, X', ⟨Lc, hQ, l', y', z'⟩, st⟩ := Jvm.LawKit.callS X K.1.1 K.2.1 (mvT K.1.2.1 w1) (mvT K.1.2.1 w2) (mvT K.1.2.1 w3) (mvT K.1.2.1 w4) hy (backOf (W := W) (Q := fun v hp L => Fr h0.size L ∧ ∃ ds', (oVoid P2) v ds' ∧ oMem Z h0 hp ds') (C T.heap M) K.1.2.1 w4 w3 hf hl) (g := mkF m pc Ls (argsL.reverse ++ S)) rfl (hsz.trans K.1.2.2.2.symm) (argsL := argsL) (rest := S) hlen rfl (by show 2 * 0 + _ ≤ _; omega) (hb K.1.2.2.1 hd) (fun _ _ => ⟨rfl, rfl, hc, hs⟩)
  dsimp only [Pt.U, Pt.locs, Pt.cells, Pt.slots] at X' l' y' z' st hQ
  subst l' y' z'
  obtain ⟨N', ds', hP, M'⟩ := hQ
  obtain ⟨rfl, hP⟩ := hP
  exact oW.ends st (hr ds' hP T' ⟨_, X', N.app N', M'⟩)
theorem oW.callI (K : oK p s m meth c Z own by0 ml ret nm) {y : MethodName} {index : Nat} {by1 : ByteArray} {ml1 : Nat} {rm : Room} {a : Addr} {argsL : List Value} {P2 : oDs → Prop} {W : Nat} {cells' slots' : Nat} (hin : y.name = "<init>")
    (w1 : (Jvm.Cond.methodLink own index y).before a0 Z = true) (w2 : (Jvm.Cond.instanceMethod y).before a0 Z = true) (w3 : (Jvm.Cond.initialized y.cls).before a0 Z = true) (w4 : (Jvm.Cond.code y by1 ml1 none).before a0 Z = true) (hy : y.cls ≠ "java/lang/invoke/MethodHandle" ∧ y.cls ≠ "java/lang/invoke/VarHandle")
    (C : oCtr l Z h0 [] y by1 ml1 none rm (.ref a :: argsL).toArray ds (oVoid P2)) (hlen : ∀ sig, parseMethodDescriptor y.desc = some sig → argsL.length = sig.parameters.length) (hd : decode by0 pc = .ok (.invokespecial index, 3)) (hst : S' = argsL.reverse ++ .ref a :: S) (hsz : Ls.size = ml) (hW : (S.map fun v => v.category).sum ≤ W) (hf : rm.frames + 1 ≤ R.frames) (hl : W + (ml1 + 11) + rm.locals ≤ R.locals) (hc : cells + rm.cells ≤ R.cells) (hs : slots + rm.slots ≤ R.slots) (hc' : cells + rm.cells = cells') (hs' : slots + rm.slots = slots') (hp : pc + 3 = pc')
    (hr : ∀ ds', P2 ds' → oW p l e R s m args below meth c Z h0 P ds' cells' slots' pc' Ls S) : oW p l e R s m args below meth c Z h0 P ds cells slots pc Ls S' := by
  subst hp hst hc' hs'
  rintro T ⟨locs, X, N, M⟩
  obtain ⟨v, vm1, ⟨T', L', k', n'⟩, -, X', ⟨Lc, hQ, l', y', z'⟩, st⟩ := X.specialBack K.1.1 hin K.2.1 (mvT K.1.2.1 w1) (mvT K.1.2.1 w2) (mvT K.1.2.1 w4) hy (backOf (W := W) (Q := fun v hp L => Fr h0.size L ∧ ∃ ds', (oVoid P2) v ds' ∧ oMem Z h0 hp ds') (C T.heap M) K.1.2.1 w4 w3 hf hl) (g := mkF m pc Ls (argsL.reverse ++ .ref a :: S)) rfl (hsz.trans K.1.2.2.2.symm) (Steps.refl _) (a := a) (argsL := argsL) (rest := S) hlen rfl (by show 2 * 0 + _ ≤ _; omega) (hb K.1.2.2.1 hd) (fun _ _ => ⟨rfl, rfl, hc, hs⟩)
  dsimp only [Pt.U, Pt.locs, Pt.cells, Pt.slots] at X' l' y' z' st hQ
  subst l' y' z'
  obtain ⟨N', ds', hP, M'⟩ := hQ
  obtain ⟨rfl, hP⟩ := hP
  exact oW.ends (fun t k => st.trans k) (hr ds' hP T' ⟨_, X', N.app N', M'⟩)
theorem oW.callV0 (K : oK p s m meth c Z own by0 ml ret nm) {y z : MethodName} {C : String} {index : Nat} {by1 : ByteArray} {ml1 : Nat} {rt1 : Option FieldType} {rm : Room} {a : Addr} {argsL : List Value} {P2 : oDs → Prop} {W : Nat} {cells' slots' : Nat}
    (w1 : (Jvm.Cond.methodLink own index y).before a0 Z = true) (w2 : (Jvm.Cond.declares y).before a0 Z = true) (w3 : (Jvm.Cond.selects C y z).before a0 Z = true) (w4 : (Jvm.Cond.instanceMethod z).before a0 Z = true) (w5 : (Jvm.Cond.code z by1 ml1 rt1).before a0 Z = true) (w6 : (Jvm.Cond.initialized z.cls).before a0 Z = true) (hy : y.cls ≠ "java/lang/invoke/MethodHandle" ∧ y.cls ≠ "java/lang/invoke/VarHandle")
    (hnf : ∀ s : State, Z.Warmed39 s.vm → NotFace s y) (hE : ∀ h, oMem Z h0 h ds → Exa Z h a C) (Ct : oCtr l Z h0 [] z by1 ml1 rt1 rm (.ref a :: argsL).toArray ds (oVoid P2)) (hlen : ∀ sig, parseMethodDescriptor y.desc = some sig → argsL.length = sig.parameters.length) (hd : decode by0 pc = .ok (.invokevirtual index, 3)) (hst : S' = argsL.reverse ++ .ref a :: S) (hsz : Ls.size = ml) (hW : (S.map fun v => v.category).sum ≤ W) (hf : rm.frames + 1 ≤ R.frames) (hl : W + (ml1 + 11) + rm.locals ≤ R.locals) (hc : cells + rm.cells ≤ R.cells) (hs : slots + rm.slots ≤ R.slots) (hc' : cells + rm.cells = cells') (hs' : slots + rm.slots = slots') (hp : pc + 3 = pc')
    (hr : ∀ ds', P2 ds' → oW p l e R s m args below meth c Z h0 P ds' cells' slots' pc' Ls S) : oW p l e R s m args below meth c Z h0 P ds cells slots pc Ls S' := by
  subst hp hst hc' hs'
  rintro T ⟨locs, X, N, M⟩
  obtain ⟨cq, kq, qa, qb, qc⟩ := isOf K.1.2.1 rfl (hE T.heap M)
  have w3' : (Jvm.Cond.selects C y z).before args s = true := mvT K.1.2.1 w3
  obtain ⟨v, vm1, ⟨T', L', k', n'⟩, -, X', ⟨Lc, hQ, l', y', z'⟩, st⟩ := X.virtualBack K.1.1 K.2.1 (mvT K.1.2.1 w1) (mvT K.1.2.1 w2) (hnf s K.1.2.1) w3' (mvT K.1.2.1 w4) hy (backOf (W := W) (Q := fun v hp L => Fr h0.size L ∧ ∃ ds', (oVoid P2) v ds' ∧ oMem Z h0 hp ds') (Ct T.heap M) K.1.2.1 w5 w6 hf hl) qa qc (g := mkF m pc Ls (argsL.reverse ++ .ref a :: S)) rfl (hsz.trans K.1.2.2.2.symm) (Steps.refl _) (argsL := argsL) (rest := S) hlen rfl (by show 2 * 0 + _ ≤ _; omega) (hb K.1.2.2.1 hd) (fun _ _ => ⟨rfl, rfl, hc, hs⟩)
  dsimp only [Pt.U, Pt.locs, Pt.cells, Pt.slots] at X' l' y' z' st hQ
  subst l' y' z'
  obtain ⟨N', ds', hP, M'⟩ := hQ
  obtain ⟨rfl, hP⟩ := hP
  exact oW.ends (fun t k => st.trans k) (hr ds' hP T' ⟨_, X', N.app N', M'⟩)
theorem oNF {C : String} {y : MethodName} (w : (Jvm.Cond.selects C y y).before a0 Z = true) : ∀ s : State, Z.Warmed39 s.vm → NotFace s y := fun s hZ => notFace_of_selects (args := #[]) (mvT hZ w)
theorem oMem.exa {h : Heap} {i : Nat} {a : Addr} {C : String} {fs : List (String × String × String × Value)} (hi : ds[i]? = some (a, .inr (C, fs))) (M : oMem Z h0 h ds) : Exa Z h a C := (M.2.2 i _ hi).2.1
end Steps
section Nums
open Jvm.FP Jvm.Free.Fl
theorem oN53 : (2 ^ 53 : Nat) = 9007199254740992 := by decide
theorem oTs : (0 : Int32).toInt = 0 ∧ (1 : Int32).toInt = 1 ∧ (2 : Int32).toInt = 2 ∧ (3 : Int32).toInt = 3 ∧ (4 : Int32).toInt = 4 ∧ (5 : Int32).toInt = 5 ∧ (6 : Int32).toInt = 6 ∧ (7 : Int32).toInt = 7 ∧ (8 : Int32).toInt = 8 ∧ (9 : Int32).toInt = 9 ∧ (-1 : Int32).toInt = -1 ∧ (0 : Int64).toInt = 0 ∧ (1 : Int64).toInt = 1 ∧ (2 : Int64).toInt = 2 ∧ (8 : Int64).toInt = 8 ∧ (-1 : Int64).toInt = -1 := by decide
theorem oB32 (x : Int32) : -2147483648 ≤ x.toInt ∧ x.toInt ≤ 2147483647 := by
  have h1 := Int32.le_toInt x; have h2 := Int32.toInt_lt x; omega
theorem oB64 (x : Int64) : -9223372036854775808 ≤ x.toInt ∧ x.toInt ≤ 9223372036854775807 := by
  have h1 := Int64.le_toInt x; have h2 := Int64.toInt_lt x; omega
theorem oNN {i : Int} {x : UInt64} (h : Core.DInt i x) : NoNaN64 x := val64_no.mpr (Core.DInt_ne_nan h)
theorem oI2D {a : Int32} {v : UInt64} (h : v = FP.i2d a) : Core.DInt a.toInt v := h ▸ Core.i2d_int a
theorem oL2D {a : Int64} {v : UInt64} (h : v = FP.l2d a) (b : -9007199254740992 ≤ a.toInt ∧ a.toInt ≤ 9007199254740992) : Core.DInt a.toInt v := h ▸ Core.l2d_int (by have := oN53; omega)
theorem oDK (i : Int) {x : UInt64} (h : FP.l2d (Int64.ofInt i) = x) (b : (Int64.ofInt i).toInt = i ∧ (Int64.ofInt i).toInt.natAbs ≤ 2 ^ 53) : Core.DInt i x := by
  have := Core.l2d_int b.2
  rw [b.1] at this; exact h ▸ this
theorem oDAdd {i j : Int} {x y v : UInt64} (hx : Core.DInt i x) (hy : Core.DInt j y) (h : v = FP.dadd x y) (b : -9007199254740992 ≤ i + j ∧ i + j ≤ 9007199254740992) : Core.DInt (i + j) v := h ▸ Core.dadd_int hx hy (by have := oN53; omega)
theorem oDSub {i j : Int} {x y v : UInt64} (hx : Core.DInt i x) (hy : Core.DInt j y) (h : v = FP.dsub x y) (b : -9007199254740992 ≤ i - j ∧ i - j ≤ 9007199254740992) : Core.DInt (i - j) v := h ▸ Core.dsub_int hx hy (by have := oN53; omega)
theorem oDMul {i j : Int} {x y v : UInt64} (hx : Core.DInt i x) (hy : Core.DInt j y) (h : v = FP.dmul x y) (b : -9007199254740992 ≤ i * j ∧ i * j ≤ 9007199254740992) : Core.DInt (i * j) v := h ▸ Core.dmul_int hx hy (by have := oN53; omega)
theorem oCmp {i j : Int} {x y : UInt64} {o : CmpOp} {v : Int32} (hx : Core.DInt i x) (hy : Core.DInt j y) (h : v = cmpValue (FP.dcmp x y) o) : (v < 0 ↔ i < j) ∧ (v = 0 ↔ i = j) ∧ (0 < v ↔ j < i) := by
  have e : FP.dcmp x y = some (compare i j) := Core.dcmp_int hx hy
  rw [h, e, Core.compare_ite]
  by_cases h1 : i < j
  · have h2 : ¬ i = j := by omega
    have h3 : ¬ j < i := by omega
    simp only [h1, if_true, h2, h3, iff_false, iff_true]
    cases o <;> decide
  · by_cases h2 : i = j
    · have h3 : ¬ j < i := by omega
      simp only [h1, h2, if_false, if_true, iff_true, Int.lt_irrefl, iff_false]
      cases o <;> decide
    · have h3 : j < i := by omega
      simp only [h1, h2, h3, if_false, iff_false, iff_true]
      cases o <;> decide
theorem oLadd {x y z : Int64} (h : z = x + y) (b : -9223372036854775808 ≤ x.toInt + y.toInt ∧ x.toInt + y.toInt ≤ 9223372036854775807) : z.toInt = x.toInt + y.toInt := by
  rw [h, Int64.toInt_add]; exact Int.bmod_eq_of_le (by omega) (by omega)
theorem oLsub {x y z : Int64} (h : z = x - y) (b : -9223372036854775808 ≤ x.toInt - y.toInt ∧ x.toInt - y.toInt ≤ 9223372036854775807) : z.toInt = x.toInt - y.toInt := by
  rw [h, Int64.toInt_sub]; exact Int.bmod_eq_of_le (by omega) (by omega)
theorem oLmul {x y z : Int64} (h : z = x * y) (b : -9223372036854775808 ≤ x.toInt * y.toInt ∧ x.toInt * y.toInt ≤ 9223372036854775807) : z.toInt = x.toInt * y.toInt := by
  rw [h, Int64.toInt_mul]; exact Int.bmod_eq_of_le (by omega) (by omega)
theorem oIadd {x y z : Int32} (h : z = x + y) (b : -2147483648 ≤ x.toInt + y.toInt ∧ x.toInt + y.toInt ≤ 2147483647) : z.toInt = x.toInt + y.toInt := by
  rw [h, Int32.toInt_add]; exact Int.bmod_eq_of_le (by omega) (by omega)
theorem oIsub {x y z : Int32} (h : z = x - y) (b : -2147483648 ≤ x.toInt - y.toInt ∧ x.toInt - y.toInt ≤ 2147483647) : z.toInt = x.toInt - y.toInt := by
  rw [h, Int32.toInt_sub]; exact Int.bmod_eq_of_le (by omega) (by omega)
theorem oImul {x y z : Int32} (h : z = x * y) (b : -2147483648 ≤ x.toInt * y.toInt ∧ x.toInt * y.toInt ≤ 2147483647) : z.toInt = x.toInt * y.toInt := by
  rw [h, Int32.toInt_mul]; exact Int.bmod_eq_of_le (by omega) (by omega)
theorem oI2L {x : Int32} {z : Int64} (h : z = x.toInt64) : z.toInt = x.toInt := by rw [h]; exact Int32.toInt_toInt64 x
theorem oLcmp {x y : Int64} {v : Int32} (h : v = XT.cmpL x y) : (v < 0 ↔ x.toInt < y.toInt) ∧ (v = 0 ↔ x.toInt = y.toInt) ∧ (0 < v ↔ y.toInt < x.toInt) := by
  rw [h, XT.cmpL]
  simp only [Int64.lt_iff_toInt_lt, ← Int64.toInt_inj]
  by_cases h1 : y.toInt < x.toInt
  · have h2 : ¬ x.toInt = y.toInt := by omega
    have h3 : ¬ x.toInt < y.toInt := by omega
    simp only [h1, h2, h3, if_true, iff_true, iff_false]; decide
  · by_cases h2 : x.toInt = y.toInt
    · have h3 : ¬ x.toInt < y.toInt := by omega
      simp only [h1, h2, if_false, if_true, iff_true, Int.lt_irrefl, iff_false]; decide
    · have h3 : x.toInt < y.toInt := by omega
      simp only [h1, h2, h3, if_false, iff_false, iff_true]; decide
theorem oLt32 {x y : Int32} : x < y ↔ x.toInt < y.toInt := Int32.lt_iff_toInt_lt
theorem oEq32 {x y : Int32} : x = y ↔ x.toInt = y.toInt := Int32.toInt_inj.symm
theorem oEq64 {x y : Int64} : x = y ↔ x.toInt = y.toInt := Int64.toInt_inj.symm
theorem oMask (x : Int32) (k : Nat) (hk : k < 2 ^ 31) : ∃ n : Nat, n ≤ k ∧ (x &&& Int32.ofNat k) = Int32.ofNat n := by
  refine ⟨(x &&& Int32.ofNat k).toBitVec.toNat, ?_, ?_⟩
  · have e : (Int32.ofNat k).toBitVec.toNat = k := by
      show (BitVec.ofNat 32 k).toNat = k
      rw [BitVec.toNat_ofNat]; exact Nat.mod_eq_of_lt (by omega)
    rw [Int32.toBitVec_and, BitVec.toNat_and, e]; exact Nat.and_le_right
  · apply Int32.toBitVec_inj.mp
    show _ = BitVec.ofNat 32 _
    rw [BitVec.ofNat_toNat]; simp
theorem oMask3 {x v : Int32} (h : v = x &&& 3) : v = 0 ∨ v = 1 ∨ v = 2 ∨ v = 3 := by
  obtain ⟨n, hn, e⟩ := oMask x 3 (by decide)
  have e' : v = Int32.ofNat n := h.trans e
  have : n = 0 ∨ n = 1 ∨ n = 2 ∨ n = 3 := by omega
  rcases this with rfl | rfl | rfl | rfl
  · exact Or.inl e'
  · exact Or.inr (Or.inl e')
  · exact Or.inr (Or.inr (Or.inl e'))
  · exact Or.inr (Or.inr (Or.inr e'))
theorem oMask1 {x v : Int32} (h : v = x &&& 1) : v = 0 ∨ v = 1 := by
  obtain ⟨n, hn, e⟩ := oMask x 1 (by decide)
  have e' : v = Int32.ofNat n := h.trans e
  have : n = 0 ∨ n = 1 := by omega
  rcases this with rfl | rfl
  · exact Or.inl e'
  · exact Or.inr e'
theorem oMaskR {x v : Int32} (k : Nat) (hk : k < 2 ^ 31) (h : v = x &&& Int32.ofNat k) : 0 ≤ v.toInt ∧ v.toInt ≤ k := by
  obtain ⟨n, hn, e⟩ := oMask x k hk
  rw [h, e, Int32.toInt_ofNat_of_lt (by omega)]; omega
theorem oRem {u v y : Int32} (k : Int) (h : v = u % y) (hy : y.toInt = k) (hu : 0 ≤ u.toInt) : v.toInt = u.toInt % k := h ▸ (c_irem u y k hy).1 hu
/-! how great a double can be: her exponent's field is below K -/
abbrev oMag (K : Nat) (x : UInt64) : Prop := Jvm.Free.Fl.Mag64 K x
theorem oMNN {K : Nat} {x : UInt64} (h : oMag K x) (hK : K ≤ 2047) : NoNaN64 x := (h.fin hK).noNaN
theorem oMI2D {a : Int32} {v : UInt64} (h : v = FP.i2d a) : oMag 1056 v := h ▸ i2d_mag a
theorem oML2D {a : Int64} {v : UInt64} (h : v = FP.l2d a) : oMag 1088 v := h ▸ l2d_mag a
theorem oMMul {A B K : Nat} {x y v : UInt64} (hx : oMag A x) (hy : oMag B y) (h : v = FP.dmul x y) (b : A ≤ 2047 ∧ B ≤ 2047 ∧ A + B - 1025 + 3 ≤ K) : oMag K v := h ▸ (dmul_mag hx hy b.1 b.2.1).mono b.2.2
theorem oMAdd {A K : Nat} {x y v : UInt64} (hx : oMag A x) (hy : oMag A y) (h : v = FP.dadd x y) (b : A ≤ 2047 ∧ A + 2 ≤ K) : oMag K v := h ▸ (dadd_mag hx hy b.1).mono b.2
theorem oMSub {A K : Nat} {x y v : UInt64} (hx : oMag A x) (hy : oMag A y) (h : v = FP.dsub x y) (b : A ≤ 2047 ∧ A + 2 ≤ K) : oMag K v := h ▸ (dsub_mag hx hy b.1).mono b.2
theorem oMDiv {A L K : Nat} {x y v : UInt64} (hx : oMag A x) (hy : Big64 L y) (h : v = FP.ddiv x y) (b : A ≤ 2047 ∧ 1 ≤ L ∧ A + 1021 - L + 3 ≤ K) : oMag K v := h ▸ (ddiv_mag hx hy b.1 b.2.1).mono b.2.2
theorem oSame {x y : UInt64} {o : CmpOp} {v : Int32} (e : v = cmpValue (FP.dcmp x y) o) (h : x = y) (n : NoNaN64 x) : v = 0 := e.trans (dcmpV_eq h n o)
/-! a double that is no NaN, by its value in units of the least double (an infinity counts as the first number past the greatest) -/
def oZv (i : Int) (x : UInt64) : Prop := Core.val64 x ≠ .nan ∧ Core.zval Core.b64 (Core.val64 x) = i
theorem oZv.of {x : UInt64} (h : NoNaN64 x) : oZv (Core.zval Core.b64 (Core.val64 x)) x := ⟨val64_no.mp h, rfl⟩
theorem oZv.nn {i : Int} {x : UInt64} (h : oZv i x) : NoNaN64 x := val64_no.mpr h.1
theorem oZv.int {i : Int} {x : UInt64} (h : Core.DInt i x) : oZv (i * (Core.one64 : Int)) x := ⟨Core.DInt_ne_nan h, Core.DInt_zval h⟩
theorem oZmono {i j : Int} (h : i ≤ j) : i * (Core.one64 : Int) ≤ j * (Core.one64 : Int) := Int.mul_le_mul_of_nonneg_right h (Int.natCast_nonneg _)
theorem oCmpZ {i j : Int} {x y : UInt64} {o : CmpOp} {v : Int32} (hx : oZv i x) (hy : oZv j y) (h : v = cmpValue (FP.dcmp x y) o) : (v < 0 ↔ i < j) ∧ (v = 0 ↔ i = j) ∧ (0 < v ↔ j < i) := by
  have e : FP.dcmp x y = some (compare i j) := by have := Core.dcmp_zval hx.1 hy.1; rw [hx.2, hy.2] at this; exact this
  rw [h, e, Core.compare_ite]
  by_cases h1 : i < j
  · have h2 : ¬ i = j := by omega
    have h3 : ¬ j < i := by omega
    simp only [h1, if_true, h2, h3, iff_false, iff_true]
    cases o <;> decide
  · by_cases h2 : i = j
    · have h3 : ¬ j < i := by omega
      simp only [h1, h2, if_false, if_true, iff_true, Int.lt_irrefl, iff_false]
      cases o <;> decide
    · have h3 : j < i := by omega
      simp only [h1, h2, h3, if_false, iff_false, iff_true]
      cases o <;> decide
end Nums
section Wh
open Jvm.FP Jvm.Free.Fl
def oShare (X S D : Int64) (n : UInt64) : UInt64 := if 0 < S.toInt then FP.ddiv (FP.dmul (FP.l2d X) (FP.l2d D)) (FP.l2d S) else FP.ddiv (FP.l2d X) n
theorem oWAdd {A B C : Int64} {x y v : UInt64} (hx : x = FP.l2d A) (hy : y = FP.l2d B) (e : v = FP.dadd x y) (hC : C.toInt = A.toInt + B.toInt) (b : (-9007199254740992 < A.toInt ∧ A.toInt < 9007199254740992) ∧ -9007199254740992 < B.toInt ∧ B.toInt < 9007199254740992) : v = FP.l2d C := by
  have : C = A + B := oEq64.mpr (by rw [add64 (a := A) (b := B) b.1 b.2]; exact hC)
  rw [e, hx, hy, this]; exact dadd_w b.1 b.2
theorem oWSub {A B C : Int64} {x y v : UInt64} (hx : x = FP.l2d A) (hy : y = FP.l2d B) (e : v = FP.dsub x y) (hC : C.toInt = A.toInt - B.toInt) (b : (-9007199254740992 < A.toInt ∧ A.toInt < 9007199254740992) ∧ -9007199254740992 < B.toInt ∧ B.toInt < 9007199254740992) : v = FP.l2d C := by
  have : C = A - B := oEq64.mpr (by rw [sub64 (a := A) (b := B) b.1 b.2]; exact hC)
  rw [e, hx, hy, this]; exact dsub_w b.1 b.2
theorem oI64 (i : Int) (h : -9223372036854775808 ≤ i ∧ i ≤ 9223372036854775807) : ∃ A : Int64, A.toInt = i := ⟨Int64.ofInt i, Int64.toInt_ofInt_of_le (by omega) (by omega)⟩
theorem oL0 : (0 : UInt64) = FP.l2d 0 := by decide +kernel
theorem oBigL {S : Int64} {d : UInt64} (e : d = FP.l2d S) (h : 0 < S.toInt) : Big64 1023 d := by
  subst e; exact l2d_big (fun q => by rw [q] at h; exact absurd h (by decide))
end Wh
theorem d1_0 : decode prog_4_method_8_code 0 = .ok (.dconst 0, 1) := by decide +kernel
theorem d1_1 : decode prog_4_method_8_code 1 = .ok (.dstore 4, 2) := by decide +kernel
theorem d1_3 : decode prog_4_method_8_code 3 = .ok (.dconst 0, 1) := by decide +kernel
theorem d1_4 : decode prog_4_method_8_code 4 = .ok (.dstore 6, 2) := by decide +kernel
theorem d1_6 : decode prog_4_method_8_code 6 = .ok (.iconst 0, 1) := by decide +kernel
theorem d1_7 : decode prog_4_method_8_code 7 = .ok (.istore 8, 2) := by decide +kernel
theorem d1_9 : decode prog_4_method_8_code 9 = .ok (.iload 8, 2) := by decide +kernel
theorem d1_11 : decode prog_4_method_8_code 11 = .ok (.aload_n 2, 1) := by decide +kernel
theorem d1_12 : decode prog_4_method_8_code 12 = .ok (.arraylength, 1) := by decide +kernel
theorem d1_13 : decode prog_4_method_8_code 13 = .ok (.if_icmp .ge 32, 3) := by decide +kernel
theorem d1_16 : decode prog_4_method_8_code 16 = .ok (.dload 4, 2) := by decide +kernel
theorem d1_18 : decode prog_4_method_8_code 18 = .ok (.aload_n 3, 1) := by decide +kernel
theorem d1_19 : decode prog_4_method_8_code 19 = .ok (.iload 8, 2) := by decide +kernel
theorem d1_21 : decode prog_4_method_8_code 21 = .ok (.daload, 1) := by decide +kernel
theorem d1_22 : decode prog_4_method_8_code 22 = .ok (.dadd, 1) := by decide +kernel
theorem d1_23 : decode prog_4_method_8_code 23 = .ok (.dstore 4, 2) := by decide +kernel
theorem d1_25 : decode prog_4_method_8_code 25 = .ok (.dload 6, 2) := by decide +kernel
theorem d1_27 : decode prog_4_method_8_code 27 = .ok (.aload_n 2, 1) := by decide +kernel
theorem d1_28 : decode prog_4_method_8_code 28 = .ok (.iload 8, 2) := by decide +kernel
theorem d1_30 : decode prog_4_method_8_code 30 = .ok (.daload, 1) := by decide +kernel
theorem d1_31 : decode prog_4_method_8_code 31 = .ok (.aload_n 3, 1) := by decide +kernel
theorem d1_32 : decode prog_4_method_8_code 32 = .ok (.iload 8, 2) := by decide +kernel
theorem d1_34 : decode prog_4_method_8_code 34 = .ok (.daload, 1) := by decide +kernel
theorem d1_35 : decode prog_4_method_8_code 35 = .ok (.dsub, 1) := by decide +kernel
theorem d1_36 : decode prog_4_method_8_code 36 = .ok (.dadd, 1) := by decide +kernel
theorem d1_37 : decode prog_4_method_8_code 37 = .ok (.dstore 6, 2) := by decide +kernel
theorem d1_39 : decode prog_4_method_8_code 39 = .ok (.iinc 8 1, 3) := by decide +kernel
theorem d1_42 : decode prog_4_method_8_code 42 = .ok (.goto (-33), 3) := by decide +kernel
theorem d1_45 : decode prog_4_method_8_code 45 = .ok (.dload_n 0, 1) := by decide +kernel
theorem d1_46 : decode prog_4_method_8_code 46 = .ok (.dload 4, 2) := by decide +kernel
theorem d1_48 : decode prog_4_method_8_code 48 = .ok (.dsub, 1) := by decide +kernel
theorem d1_49 : decode prog_4_method_8_code 49 = .ok (.dstore 8, 2) := by decide +kernel
theorem d1_51 : decode prog_4_method_8_code 51 = .ok (.aload_n 2, 1) := by decide +kernel
theorem d1_52 : decode prog_4_method_8_code 52 = .ok (.arraylength, 1) := by decide +kernel
theorem d1_53 : decode prog_4_method_8_code 53 = .ok (.newarray .double, 2) := by decide +kernel
theorem d1_55 : decode prog_4_method_8_code 55 = .ok (.astore 10, 2) := by decide +kernel
theorem d1_57 : decode prog_4_method_8_code 57 = .ok (.iconst 0, 1) := by decide +kernel
theorem d1_58 : decode prog_4_method_8_code 58 = .ok (.istore 11, 2) := by decide +kernel
theorem d1_60 : decode prog_4_method_8_code 60 = .ok (.iload 11, 2) := by decide +kernel
theorem d1_62 : decode prog_4_method_8_code 62 = .ok (.aload_n 2, 1) := by decide +kernel
theorem d1_63 : decode prog_4_method_8_code 63 = .ok (.arraylength, 1) := by decide +kernel
theorem d1_64 : decode prog_4_method_8_code 64 = .ok (.if_icmp .ge 54, 3) := by decide +kernel
theorem d1_67 : decode prog_4_method_8_code 67 = .ok (.dload 6, 2) := by decide +kernel
theorem d1_69 : decode prog_4_method_8_code 69 = .ok (.dconst 0, 1) := by decide +kernel
theorem d1_70 : decode prog_4_method_8_code 70 = .ok (.dcmp .l, 1) := by decide +kernel
theorem d1_71 : decode prog_4_method_8_code 71 = .ok (.ifCond .le 21, 3) := by decide +kernel
theorem d1_74 : decode prog_4_method_8_code 74 = .ok (.dload 8, 2) := by decide +kernel
theorem d1_76 : decode prog_4_method_8_code 76 = .ok (.aload_n 2, 1) := by decide +kernel
theorem d1_77 : decode prog_4_method_8_code 77 = .ok (.iload 11, 2) := by decide +kernel
theorem d1_79 : decode prog_4_method_8_code 79 = .ok (.daload, 1) := by decide +kernel
theorem d1_80 : decode prog_4_method_8_code 80 = .ok (.aload_n 3, 1) := by decide +kernel
theorem d1_81 : decode prog_4_method_8_code 81 = .ok (.iload 11, 2) := by decide +kernel
theorem d1_83 : decode prog_4_method_8_code 83 = .ok (.daload, 1) := by decide +kernel
theorem d1_84 : decode prog_4_method_8_code 84 = .ok (.dsub, 1) := by decide +kernel
theorem d1_85 : decode prog_4_method_8_code 85 = .ok (.dmul, 1) := by decide +kernel
theorem d1_86 : decode prog_4_method_8_code 86 = .ok (.dload 6, 2) := by decide +kernel
theorem d1_88 : decode prog_4_method_8_code 88 = .ok (.ddiv, 1) := by decide +kernel
theorem d1_89 : decode prog_4_method_8_code 89 = .ok (.goto 9, 3) := by decide +kernel
theorem d1_92 : decode prog_4_method_8_code 92 = .ok (.dload 8, 2) := by decide +kernel
theorem d1_94 : decode prog_4_method_8_code 94 = .ok (.aload_n 2, 1) := by decide +kernel
theorem d1_95 : decode prog_4_method_8_code 95 = .ok (.arraylength, 1) := by decide +kernel
theorem d1_96 : decode prog_4_method_8_code 96 = .ok (.i2d, 1) := by decide +kernel
theorem d1_97 : decode prog_4_method_8_code 97 = .ok (.ddiv, 1) := by decide +kernel
theorem d1_98 : decode prog_4_method_8_code 98 = .ok (.dstore 12, 2) := by decide +kernel
theorem d1_100 : decode prog_4_method_8_code 100 = .ok (.aload 10, 2) := by decide +kernel
theorem d1_102 : decode prog_4_method_8_code 102 = .ok (.iload 11, 2) := by decide +kernel
theorem d1_104 : decode prog_4_method_8_code 104 = .ok (.aload_n 3, 1) := by decide +kernel
theorem d1_105 : decode prog_4_method_8_code 105 = .ok (.iload 11, 2) := by decide +kernel
theorem d1_107 : decode prog_4_method_8_code 107 = .ok (.daload, 1) := by decide +kernel
theorem d1_108 : decode prog_4_method_8_code 108 = .ok (.dload 12, 2) := by decide +kernel
theorem d1_110 : decode prog_4_method_8_code 110 = .ok (.dadd, 1) := by decide +kernel
theorem d1_111 : decode prog_4_method_8_code 111 = .ok (.dastore, 1) := by decide +kernel
theorem d1_112 : decode prog_4_method_8_code 112 = .ok (.iinc 11 1, 3) := by decide +kernel
theorem d1_115 : decode prog_4_method_8_code 115 = .ok (.goto (-55), 3) := by decide +kernel
theorem d1_118 : decode prog_4_method_8_code 118 = .ok (.aload 10, 2) := by decide +kernel
theorem d1_120 : decode prog_4_method_8_code 120 = .ok (.areturn, 1) := by decide +kernel
set_option maxRecDepth 65536 in
set_option maxHeartbeats 40000000 in
theorem own_sp0 {l : Launch} {Z : State} {a0 : Array Value} {h0 : Heap} (hw : ∀ d ∈ tables_1, d.before a0 Z = true) (a b : Addr) (pay X S : Int64) (bpay : -2147483648 ≤ pay.toInt ∧ pay.toInt ≤ 2147483647) (hX : X.toInt = pay.toInt - (0)) (hS : S.toInt = 0) :
    oCtr l Z h0 [] (⟨"com/example/lotwise/lotwise/auction/PauseAuction", "spread", "(D[D[D)[D"⟩ : MethodName) prog_4_method_8_code 14 (some (.array .double)) ({ frames := 0, cells := 1, slots := 0, locals := 0 } : Room) #[(.double (FP.l2d pay)), (.ref a), (.ref b)] [(a, .inl (.double, [])), (b, .inl (.double, []))] (oVal fun w d => ∃ (c : Addr), w = .ref c ∧ d = [(a, .inl (.double, [])), (b, .inl (.double, [])), (c, .inl (.double, []))]) := by
  refine oCtr.of (Ls := #[.val (.double (FP.l2d pay)), .second, .val (.ref a), .val (.ref b), .unset, .unset, .unset, .unset, .unset, .unset, .unset, .unset, .unset, .unset]) (plainFor_of_name (by first | (simp [plainName, overriddenIn]; done) | decide +kernel)) (fun m => by first | (simp [entryFrame, mkF, argsToLocals, Value.category]; done) | rfl) ?_
  intro p e s m below meth c K
  refine oW.dconst0 (pc' := 1) K d1_0 rfl ?_
  refine oW.dstore (Ls' := #[.val (.double (FP.l2d pay)), .second, .val (.ref a), .val (.ref b), .val (.double (0 : UInt64)), .second, .unset, .unset, .unset, .unset, .unset, .unset, .unset, .unset]) (pc' := 3) K d1_1 rfl rfl ?_
  refine oW.dconst0 (pc' := 4) K d1_3 rfl ?_
  refine oW.dstore (Ls' := #[.val (.double (FP.l2d pay)), .second, .val (.ref a), .val (.ref b), .val (.double (0 : UInt64)), .second, .val (.double (0 : UInt64)), .second, .unset, .unset, .unset, .unset, .unset, .unset]) (pc' := 6) K d1_4 rfl rfl ?_
  refine oW.iconst (v := (0 : Int32)) (pc' := 7) K d1_6 (by decide) rfl ?_
  refine oW.istore (Ls' := #[.val (.double (FP.l2d pay)), .second, .val (.ref a), .val (.ref b), .val (.double (0 : UInt64)), .second, .val (.double (0 : UInt64)), .second, .val (.int (0 : Int32)), .unset, .unset, .unset, .unset, .unset]) (pc' := 9) K d1_7 rfl rfl ?_
  refine oW.iload (pc' := 11) K d1_9 rfl rfl ?_
  refine oW.aloadN (pc' := 12) K d1_11 rfl rfl rfl ?_
  refine oW.alen (i := 0) (v := (0 : Int32)) (pc' := 13) K d1_12 rfl rfl rfl ?_
  refine oW.icmp_ge (pc' := 45) (pc3 := 16) K d1_13 (by decide) (by decide) rfl (fun _ => ?_) (fun q => absurd q (by decide))
  refine oW.dloadN (pc' := 46) K d1_45 rfl rfl ?_
  refine oW.dload (pc' := 48) K d1_46 rfl rfl ?_
  obtain ⟨v48, ev48⟩ : ∃ z : UInt64, z = FP.dsub (FP.l2d pay) (0 : UInt64) := ⟨_, rfl⟩
  obtain ⟨Lv48, Tv48⟩ := oI64 (pay.toInt - (0 : Int64).toInt) (by first | omega | (have oTs' := oTs; omega) | (simp only [Int32.reduceToInt, Int64.reduceToInt]; omega))
  have lv48 : v48 = FP.l2d Lv48 := oWSub rfl oL0 ev48 Tv48 (by first | omega | (have oTs' := oTs; omega) | (simp only [Int32.reduceToInt, Int64.reduceToInt]; omega))
  try simp only [Int32.reduceToInt, Int64.reduceToInt] at Tv48
  refine oW.dsub (pc' := 49) K d1_48 ev48 (oMNN (oML2D lv48) (by decide)) rfl ?_
  refine oW.dstore (Ls' := #[.val (.double (FP.l2d pay)), .second, .val (.ref a), .val (.ref b), .val (.double (0 : UInt64)), .second, .val (.double (0 : UInt64)), .second, .val (.double v48), .second, .unset, .unset, .unset, .unset]) (pc' := 51) K d1_49 rfl rfl ?_
  refine oW.aloadN (pc' := 52) K d1_51 rfl rfl rfl ?_
  refine oW.alen (i := 0) (v := (0 : Int32)) (pc' := 53) K d1_52 rfl rfl rfl ?_
  refine oW.newarr (n := 0) (cells' := 1) (slots' := 0) (dsf := fun z => [(a, .inl (.double, [])), (b, .inl (.double, [])), (z, .inl (.double, []))]) (pc' := 55) K (hw _ (List.mem_of_getElem? (i := 0) rfl)) d1_53 rfl (by decide) (by decide) (by decide) (by decide) rfl rfl (fun _ => rfl) rfl ?_
  intro a53 ha53
  refine oW.astore (Ls' := #[.val (.double (FP.l2d pay)), .second, .val (.ref a), .val (.ref b), .val (.double (0 : UInt64)), .second, .val (.double (0 : UInt64)), .second, .val (.double v48), .second, .val (.ref a53), .unset, .unset, .unset]) (pc' := 57) K d1_55 rfl rfl rfl ?_
  refine oW.iconst (v := (0 : Int32)) (pc' := 58) K d1_57 (by decide) rfl ?_
  refine oW.istore (Ls' := #[.val (.double (FP.l2d pay)), .second, .val (.ref a), .val (.ref b), .val (.double (0 : UInt64)), .second, .val (.double (0 : UInt64)), .second, .val (.double v48), .second, .val (.ref a53), .val (.int (0 : Int32)), .unset, .unset]) (pc' := 60) K d1_58 rfl rfl ?_
  refine oW.iload (pc' := 62) K d1_60 rfl rfl ?_
  refine oW.aloadN (pc' := 63) K d1_62 rfl rfl rfl ?_
  refine oW.alen (i := 0) (v := (0 : Int32)) (pc' := 64) K d1_63 rfl rfl rfl ?_
  refine oW.icmp_ge (pc' := 118) (pc3 := 67) K d1_64 (by decide) (by decide) rfl (fun _ => ?_) (fun q => absurd q (by decide))
  refine oW.aload (pc' := 120) K d1_118 rfl rfl rfl ?_
  exact oW.retA K rfl rfl rfl d1_120 (by decide) (by decide) ⟨_, rfl, _, rfl, rfl⟩
set_option maxRecDepth 65536 in
set_option maxHeartbeats 40000000 in
theorem own_sp1 {l : Launch} {Z : State} {a0 : Array Value} {h0 : Heap} (hw : ∀ d ∈ tables_1, d.before a0 Z = true) (a b : Addr) (pay X S : Int64) (bpay : -2147483648 ≤ pay.toInt ∧ pay.toInt ≤ 2147483647) (v0 u0 D0 : Int64) (bv0 : -2147483648 ≤ v0.toInt ∧ v0.toInt ≤ 2147483647) (bu0 : -2147483648 ≤ u0.toInt ∧ u0.toInt ≤ 2147483647) (hD0 : D0.toInt = v0.toInt - u0.toInt) (hX : X.toInt = pay.toInt - (0 + u0.toInt)) (hS : S.toInt = 0 + (v0.toInt - u0.toInt)) :
    oCtr l Z h0 [] (⟨"com/example/lotwise/lotwise/auction/PauseAuction", "spread", "(D[D[D)[D"⟩ : MethodName) prog_4_method_8_code 14 (some (.array .double)) ({ frames := 0, cells := 1, slots := 1, locals := 0 } : Room) #[(.double (FP.l2d pay)), (.ref a), (.ref b)] [(a, .inl (.double, [(.double (FP.l2d v0))])), (b, .inl (.double, [(.double (FP.l2d u0))]))] (oVal fun w d => ∃ (c : Addr) (y0 : UInt64), w = .ref c ∧ y0 = FP.dadd (FP.l2d u0) (oShare X S D0 (4607182418800017408 : UInt64)) ∧ Jvm.Free.Fl.NoNaN64 y0 ∧ d = [(a, .inl (.double, [(.double (FP.l2d v0))])), (b, .inl (.double, [(.double (FP.l2d u0))])), (c, .inl (.double, [(.double y0)]))]) := by
  refine oCtr.of (Ls := #[.val (.double (FP.l2d pay)), .second, .val (.ref a), .val (.ref b), .unset, .unset, .unset, .unset, .unset, .unset, .unset, .unset, .unset, .unset]) (plainFor_of_name (by first | (simp [plainName, overriddenIn]; done) | decide +kernel)) (fun m => by first | (simp [entryFrame, mkF, argsToLocals, Value.category]; done) | rfl) ?_
  intro p e s m below meth c K
  refine oW.dconst0 (pc' := 1) K d1_0 rfl ?_
  refine oW.dstore (Ls' := #[.val (.double (FP.l2d pay)), .second, .val (.ref a), .val (.ref b), .val (.double (0 : UInt64)), .second, .unset, .unset, .unset, .unset, .unset, .unset, .unset, .unset]) (pc' := 3) K d1_1 rfl rfl ?_
  refine oW.dconst0 (pc' := 4) K d1_3 rfl ?_
  refine oW.dstore (Ls' := #[.val (.double (FP.l2d pay)), .second, .val (.ref a), .val (.ref b), .val (.double (0 : UInt64)), .second, .val (.double (0 : UInt64)), .second, .unset, .unset, .unset, .unset, .unset, .unset]) (pc' := 6) K d1_4 rfl rfl ?_
  refine oW.iconst (v := (0 : Int32)) (pc' := 7) K d1_6 (by decide) rfl ?_
  refine oW.istore (Ls' := #[.val (.double (FP.l2d pay)), .second, .val (.ref a), .val (.ref b), .val (.double (0 : UInt64)), .second, .val (.double (0 : UInt64)), .second, .val (.int (0 : Int32)), .unset, .unset, .unset, .unset, .unset]) (pc' := 9) K d1_7 rfl rfl ?_
  refine oW.iload (pc' := 11) K d1_9 rfl rfl ?_
  refine oW.aloadN (pc' := 12) K d1_11 rfl rfl rfl ?_
  refine oW.alen (i := 0) (v := (1 : Int32)) (pc' := 13) K d1_12 rfl rfl rfl ?_
  refine oW.icmp_ge (pc' := 45) (pc3 := 16) K d1_13 (by decide) (by decide) rfl (fun q => absurd q (by decide)) (fun _ => ?_)
  refine oW.dload (pc' := 18) K d1_16 rfl rfl ?_
  refine oW.aloadN (pc' := 19) K d1_18 rfl rfl rfl ?_
  refine oW.iload (pc' := 21) K d1_19 rfl rfl ?_
  refine oW.daload (i := 1) (k := 0) (pc' := 22) K d1_21 rfl rfl (by decide) rfl rfl ?_
  obtain ⟨v22, ev22⟩ : ∃ z : UInt64, z = FP.dadd (0 : UInt64) (FP.l2d u0) := ⟨_, rfl⟩
  obtain ⟨Lv22, Tv22⟩ := oI64 ((0 : Int64).toInt + u0.toInt) (by first | omega | (have oTs' := oTs; omega) | (simp only [Int32.reduceToInt, Int64.reduceToInt]; omega))
  have lv22 : v22 = FP.l2d Lv22 := oWAdd oL0 rfl ev22 Tv22 (by first | omega | (have oTs' := oTs; omega) | (simp only [Int32.reduceToInt, Int64.reduceToInt]; omega))
  try simp only [Int32.reduceToInt, Int64.reduceToInt] at Tv22
  refine oW.dadd (pc' := 23) K d1_22 ev22 (oMNN (oML2D lv22) (by decide)) rfl ?_
  refine oW.dstore (Ls' := #[.val (.double (FP.l2d pay)), .second, .val (.ref a), .val (.ref b), .val (.double v22), .second, .val (.double (0 : UInt64)), .second, .val (.int (0 : Int32)), .unset, .unset, .unset, .unset, .unset]) (pc' := 25) K d1_23 rfl rfl ?_
  refine oW.dload (pc' := 27) K d1_25 rfl rfl ?_
  refine oW.aloadN (pc' := 28) K d1_27 rfl rfl rfl ?_
  refine oW.iload (pc' := 30) K d1_28 rfl rfl ?_
  refine oW.daload (i := 0) (k := 0) (pc' := 31) K d1_30 rfl rfl (by decide) rfl rfl ?_
  refine oW.aloadN (pc' := 32) K d1_31 rfl rfl rfl ?_
  refine oW.iload (pc' := 34) K d1_32 rfl rfl ?_
  refine oW.daload (i := 1) (k := 0) (pc' := 35) K d1_34 rfl rfl (by decide) rfl rfl ?_
  obtain ⟨v35, ev35⟩ : ∃ z : UInt64, z = FP.dsub (FP.l2d v0) (FP.l2d u0) := ⟨_, rfl⟩
  obtain ⟨Lv35, Tv35⟩ := oI64 (v0.toInt - u0.toInt) (by first | omega | (have oTs' := oTs; omega) | (simp only [Int32.reduceToInt, Int64.reduceToInt]; omega))
  have lv35 : v35 = FP.l2d Lv35 := oWSub rfl rfl ev35 Tv35 (by first | omega | (have oTs' := oTs; omega) | (simp only [Int32.reduceToInt, Int64.reduceToInt]; omega))
  try simp only [Int32.reduceToInt, Int64.reduceToInt] at Tv35
  refine oW.dsub (pc' := 36) K d1_35 ev35 (oMNN (oML2D lv35) (by decide)) rfl ?_
  obtain ⟨v36, ev36⟩ : ∃ z : UInt64, z = FP.dadd (0 : UInt64) v35 := ⟨_, rfl⟩
  obtain ⟨Lv36, Tv36⟩ := oI64 ((0 : Int64).toInt + Lv35.toInt) (by first | omega | (have oTs' := oTs; omega) | (simp only [Int32.reduceToInt, Int64.reduceToInt]; omega))
  have lv36 : v36 = FP.l2d Lv36 := oWAdd oL0 lv35 ev36 Tv36 (by first | omega | (have oTs' := oTs; omega) | (simp only [Int32.reduceToInt, Int64.reduceToInt]; omega))
  try simp only [Int32.reduceToInt, Int64.reduceToInt] at Tv36
  refine oW.dadd (pc' := 37) K d1_36 ev36 (oMNN (oML2D lv36) (by decide)) rfl ?_
  refine oW.dstore (Ls' := #[.val (.double (FP.l2d pay)), .second, .val (.ref a), .val (.ref b), .val (.double v22), .second, .val (.double v36), .second, .val (.int (0 : Int32)), .unset, .unset, .unset, .unset, .unset]) (pc' := 39) K d1_37 rfl rfl ?_
  refine oW.iinc (v := (1 : Int32)) (Ls' := #[.val (.double (FP.l2d pay)), .second, .val (.ref a), .val (.ref b), .val (.double v22), .second, .val (.double v36), .second, .val (.int (1 : Int32)), .unset, .unset, .unset, .unset, .unset]) (pc' := 42) K d1_39 rfl (by decide) rfl rfl ?_
  refine oW.goto (pc' := 9) K d1_42 (by decide) (by decide) ?_
  refine oW.iload (pc' := 11) K d1_9 rfl rfl ?_
  refine oW.aloadN (pc' := 12) K d1_11 rfl rfl rfl ?_
  refine oW.alen (i := 0) (v := (1 : Int32)) (pc' := 13) K d1_12 rfl rfl rfl ?_
  refine oW.icmp_ge (pc' := 45) (pc3 := 16) K d1_13 (by decide) (by decide) rfl (fun _ => ?_) (fun q => absurd q (by decide))
  refine oW.dloadN (pc' := 46) K d1_45 rfl rfl ?_
  refine oW.dload (pc' := 48) K d1_46 rfl rfl ?_
  obtain ⟨v48, ev48⟩ : ∃ z : UInt64, z = FP.dsub (FP.l2d pay) v22 := ⟨_, rfl⟩
  obtain ⟨Lv48, Tv48⟩ := oI64 (pay.toInt - Lv22.toInt) (by first | omega | (have oTs' := oTs; omega) | (simp only [Int32.reduceToInt, Int64.reduceToInt]; omega))
  have lv48 : v48 = FP.l2d Lv48 := oWSub rfl lv22 ev48 Tv48 (by first | omega | (have oTs' := oTs; omega) | (simp only [Int32.reduceToInt, Int64.reduceToInt]; omega))
  try simp only [Int32.reduceToInt, Int64.reduceToInt] at Tv48
  refine oW.dsub (pc' := 49) K d1_48 ev48 (oMNN (oML2D lv48) (by decide)) rfl ?_
  refine oW.dstore (Ls' := #[.val (.double (FP.l2d pay)), .second, .val (.ref a), .val (.ref b), .val (.double v22), .second, .val (.double v36), .second, .val (.double v48), .second, .unset, .unset, .unset, .unset]) (pc' := 51) K d1_49 rfl rfl ?_
  refine oW.aloadN (pc' := 52) K d1_51 rfl rfl rfl ?_
  refine oW.alen (i := 0) (v := (1 : Int32)) (pc' := 53) K d1_52 rfl rfl rfl ?_
  refine oW.newarr (n := 1) (cells' := 1) (slots' := 1) (dsf := fun z => [(a, .inl (.double, [(.double (FP.l2d v0))])), (b, .inl (.double, [(.double (FP.l2d u0))])), (z, .inl (.double, [(.double (0 : UInt64))]))]) (pc' := 55) K (hw _ (List.mem_of_getElem? (i := 0) rfl)) d1_53 rfl (by decide) (by decide) (by decide) (by decide) rfl rfl (fun _ => rfl) rfl ?_
  intro a53 ha53
  refine oW.astore (Ls' := #[.val (.double (FP.l2d pay)), .second, .val (.ref a), .val (.ref b), .val (.double v22), .second, .val (.double v36), .second, .val (.double v48), .second, .val (.ref a53), .unset, .unset, .unset]) (pc' := 57) K d1_55 rfl rfl rfl ?_
  refine oW.iconst (v := (0 : Int32)) (pc' := 58) K d1_57 (by decide) rfl ?_
  refine oW.istore (Ls' := #[.val (.double (FP.l2d pay)), .second, .val (.ref a), .val (.ref b), .val (.double v22), .second, .val (.double v36), .second, .val (.double v48), .second, .val (.ref a53), .val (.int (0 : Int32)), .unset, .unset]) (pc' := 60) K d1_58 rfl rfl ?_
  refine oW.iload (pc' := 62) K d1_60 rfl rfl ?_
  refine oW.aloadN (pc' := 63) K d1_62 rfl rfl rfl ?_
  refine oW.alen (i := 0) (v := (1 : Int32)) (pc' := 64) K d1_63 rfl rfl rfl ?_
  refine oW.icmp_ge (pc' := 118) (pc3 := 67) K d1_64 (by decide) (by decide) rfl (fun q => absurd q (by decide)) (fun _ => ?_)
  refine oW.join (F := fun z : UInt64 => z = oShare X S D0 (4607182418800017408 : UInt64) ∧ oMag 1155 z) (pcj := 98) (Lf := fun z => #[.val (.double (FP.l2d pay)), .second, .val (.ref a), .val (.ref b), .val (.double v22), .second, .val (.double v36), .second, .val (.double v48), .second, .val (.ref a53), .val (.int (0 : Int32)), .unset, .unset]) (Sf := fun z => [(.double z)]) (dsf := fun z => [(a, .inl (.double, [(.double (FP.l2d v0))])), (b, .inl (.double, [(.double (FP.l2d u0))])), (a53, .inl (.double, [(.double (0 : UInt64))]))]) ?_ ?_
  · intro J
    refine oW.dload (pc' := 69) K d1_67 rfl rfl ?_
    refine oW.dconst0 (pc' := 70) K d1_69 rfl ?_
    obtain ⟨v70, ev70⟩ : ∃ z : Int32, z = cmpValue (FP.dcmp v36 (0 : UInt64)) .l := ⟨_, rfl⟩
    refine oW.dcmp (pc' := 71) K d1_70 ev70 rfl ?_
    refine oW.if_le (pc' := 92) (pc3 := 74) K d1_71 (by decide) (by decide) rfl (fun c71 => ?_) (fun c71 => ?_)
    · rw [(oCmp (oL2D lv36 (by first | omega | (have oTs' := oTs; omega) | (simp only [Int32.reduceToInt, Int64.reduceToInt]; omega))) (oDK 0 (by decide +kernel) (by decide)) ev70).2.2] at c71
      refine oW.dload (pc' := 94) K d1_92 rfl rfl ?_
      refine oW.aloadN (pc' := 95) K d1_94 rfl rfl rfl ?_
      refine oW.alen (i := 0) (v := (1 : Int32)) (pc' := 96) K d1_95 rfl rfl rfl ?_
      refine oW.i2d (v := (4607182418800017408 : UInt64)) (pc' := 97) K d1_96 (by decide +kernel) rfl ?_
      obtain ⟨v97, ev97⟩ : ∃ z : UInt64, z = FP.ddiv v48 (4607182418800017408 : UInt64) := ⟨_, rfl⟩
      have mv97 : oMag 1089 v97 := oMDiv (oML2D lv48) (by unfold Big64; decide : Big64 1023 (4607182418800017408 : UInt64)) ev97 (by decide)
      refine oW.ddiv (pc' := 98) K d1_97 ev97 (oMNN mv97 (by decide)) rfl ?_
      exact J v97 (⟨by rw [oShare, if_neg (by omega)]; rw [ev97, lv48, oEq64.mpr (show Lv48.toInt = X.toInt by omega)], Jvm.Free.Fl.Mag64.mono mv97 (by decide)⟩)
    · rw [(oCmp (oL2D lv36 (by first | omega | (have oTs' := oTs; omega) | (simp only [Int32.reduceToInt, Int64.reduceToInt]; omega))) (oDK 0 (by decide +kernel) (by decide)) ev70).2.2] at c71
      refine oW.dload (pc' := 76) K d1_74 rfl rfl ?_
      refine oW.aloadN (pc' := 77) K d1_76 rfl rfl rfl ?_
      refine oW.iload (pc' := 79) K d1_77 rfl rfl ?_
      refine oW.daload (i := 0) (k := 0) (pc' := 80) K d1_79 rfl rfl (by decide) rfl rfl ?_
      refine oW.aloadN (pc' := 81) K d1_80 rfl rfl rfl ?_
      refine oW.iload (pc' := 83) K d1_81 rfl rfl ?_
      refine oW.daload (i := 1) (k := 0) (pc' := 84) K d1_83 rfl rfl (by decide) rfl rfl ?_
      obtain ⟨v84, ev84⟩ : ∃ z : UInt64, z = FP.dsub (FP.l2d v0) (FP.l2d u0) := ⟨_, rfl⟩
      obtain ⟨Lv84, Tv84⟩ := oI64 (v0.toInt - u0.toInt) (by first | omega | (have oTs' := oTs; omega) | (simp only [Int32.reduceToInt, Int64.reduceToInt]; omega))
      have lv84 : v84 = FP.l2d Lv84 := oWSub rfl rfl ev84 Tv84 (by first | omega | (have oTs' := oTs; omega) | (simp only [Int32.reduceToInt, Int64.reduceToInt]; omega))
      try simp only [Int32.reduceToInt, Int64.reduceToInt] at Tv84
      refine oW.dsub (pc' := 85) K d1_84 ev84 (oMNN (oML2D lv84) (by decide)) rfl ?_
      obtain ⟨v85, ev85⟩ : ∃ z : UInt64, z = FP.dmul v48 v84 := ⟨_, rfl⟩
      have mv85 : oMag 1154 v85 := oMMul (oML2D lv48) (oML2D lv84) ev85 (by decide)
      refine oW.dmul (pc' := 86) K d1_85 ev85 (oMNN mv85 (by decide)) rfl ?_
      refine oW.dload (pc' := 88) K d1_86 rfl rfl ?_
      obtain ⟨v88, ev88⟩ : ∃ z : UInt64, z = FP.ddiv v85 v36 := ⟨_, rfl⟩
      have mv88 : oMag 1155 v88 := oMDiv mv85 (oBigL lv36 (by first | omega | (have oTs' := oTs; omega) | (simp only [Int32.reduceToInt, Int64.reduceToInt]; omega))) ev88 (by decide)
      refine oW.ddiv (pc' := 89) K d1_88 ev88 (oMNN mv88 (by decide)) rfl ?_
      refine oW.goto (pc' := 98) K d1_89 (by decide) (by decide) ?_
      exact J v88 (⟨by rw [oShare, if_pos (by omega)]; rw [ev88, ev85, lv48, lv84, lv36, oEq64.mpr (show Lv48.toInt = X.toInt by omega), oEq64.mpr (show Lv84.toInt = D0.toInt by omega), oEq64.mpr (show Lv36.toInt = S.toInt by omega)], mv88⟩)
  intro sh hsh
  obtain ⟨gsh, msh⟩ := hsh
  refine oW.dstore (Ls' := #[.val (.double (FP.l2d pay)), .second, .val (.ref a), .val (.ref b), .val (.double v22), .second, .val (.double v36), .second, .val (.double v48), .second, .val (.ref a53), .val (.int (0 : Int32)), .val (.double sh), .second]) (pc' := 100) K d1_98 rfl rfl ?_
  refine oW.aload (pc' := 102) K d1_100 rfl rfl rfl ?_
  refine oW.iload (pc' := 104) K d1_102 rfl rfl ?_
  refine oW.aloadN (pc' := 105) K d1_104 rfl rfl rfl ?_
  refine oW.iload (pc' := 107) K d1_105 rfl rfl ?_
  refine oW.daload (i := 1) (k := 0) (pc' := 108) K d1_107 rfl rfl (by decide) rfl rfl ?_
  refine oW.dload (pc' := 110) K d1_108 rfl rfl ?_
  obtain ⟨v110, ev110⟩ : ∃ z : UInt64, z = FP.dadd (FP.l2d u0) sh := ⟨_, rfl⟩
  have mv110 : oMag 1157 v110 := oMAdd (A := 1155) (Jvm.Free.Fl.Mag64.mono (oML2D rfl) (by decide)) msh ev110 (by decide)
  refine oW.dadd (pc' := 111) K d1_110 ev110 (oMNN mv110 (by decide)) rfl ?_
  refine oW.dastore (i := 2) (k := 0) (ds' := [(a, .inl (.double, [(.double (FP.l2d v0))])), (b, .inl (.double, [(.double (FP.l2d u0))])), (a53, .inl (.double, [(.double v110)]))]) (pc' := 112) K d1_111 rfl rfl (by decide) (Nat.lt_of_sub_eq_succ rfl) rfl rfl ?_
  refine oW.iinc (v := (1 : Int32)) (Ls' := #[.val (.double (FP.l2d pay)), .second, .val (.ref a), .val (.ref b), .val (.double v22), .second, .val (.double v36), .second, .val (.double v48), .second, .val (.ref a53), .val (.int (1 : Int32)), .val (.double sh), .second]) (pc' := 115) K d1_112 rfl (by decide) rfl rfl ?_
  refine oW.goto (pc' := 60) K d1_115 (by decide) (by decide) ?_
  refine oW.iload (pc' := 62) K d1_60 rfl rfl ?_
  refine oW.aloadN (pc' := 63) K d1_62 rfl rfl rfl ?_
  refine oW.alen (i := 0) (v := (1 : Int32)) (pc' := 64) K d1_63 rfl rfl rfl ?_
  refine oW.icmp_ge (pc' := 118) (pc3 := 67) K d1_64 (by decide) (by decide) rfl (fun _ => ?_) (fun q => absurd q (by decide))
  refine oW.aload (pc' := 120) K d1_118 rfl rfl rfl ?_
  exact oW.retA K rfl rfl rfl d1_120 (by decide) (by decide) ⟨_, rfl, _, _, rfl, ev110.trans (by rw [gsh]), oMNN mv110 (by decide), rfl⟩
set_option maxRecDepth 65536 in
set_option maxHeartbeats 40000000 in
theorem own_sp2 {l : Launch} {Z : State} {a0 : Array Value} {h0 : Heap} (hw : ∀ d ∈ tables_1, d.before a0 Z = true) (a b : Addr) (pay X S : Int64) (bpay : -2147483648 ≤ pay.toInt ∧ pay.toInt ≤ 2147483647) (v0 u0 D0 : Int64) (bv0 : -2147483648 ≤ v0.toInt ∧ v0.toInt ≤ 2147483647) (bu0 : -2147483648 ≤ u0.toInt ∧ u0.toInt ≤ 2147483647) (hD0 : D0.toInt = v0.toInt - u0.toInt) (v1 u1 D1 : Int64) (bv1 : -2147483648 ≤ v1.toInt ∧ v1.toInt ≤ 2147483647) (bu1 : -2147483648 ≤ u1.toInt ∧ u1.toInt ≤ 2147483647) (hD1 : D1.toInt = v1.toInt - u1.toInt) (hX : X.toInt = pay.toInt - (0 + u0.toInt + u1.toInt)) (hS : S.toInt = 0 + (v0.toInt - u0.toInt) + (v1.toInt - u1.toInt)) :
    oCtr l Z h0 [] (⟨"com/example/lotwise/lotwise/auction/PauseAuction", "spread", "(D[D[D)[D"⟩ : MethodName) prog_4_method_8_code 14 (some (.array .double)) ({ frames := 0, cells := 1, slots := 2, locals := 0 } : Room) #[(.double (FP.l2d pay)), (.ref a), (.ref b)] [(a, .inl (.double, [(.double (FP.l2d v0)), (.double (FP.l2d v1))])), (b, .inl (.double, [(.double (FP.l2d u0)), (.double (FP.l2d u1))]))] (oVal fun w d => ∃ (c : Addr) (y0 y1 : UInt64), w = .ref c ∧ y0 = FP.dadd (FP.l2d u0) (oShare X S D0 (4611686018427387904 : UInt64)) ∧ Jvm.Free.Fl.NoNaN64 y0 ∧ y1 = FP.dadd (FP.l2d u1) (oShare X S D1 (4611686018427387904 : UInt64)) ∧ Jvm.Free.Fl.NoNaN64 y1 ∧ d = [(a, .inl (.double, [(.double (FP.l2d v0)), (.double (FP.l2d v1))])), (b, .inl (.double, [(.double (FP.l2d u0)), (.double (FP.l2d u1))])), (c, .inl (.double, [(.double y0), (.double y1)]))]) := by
  refine oCtr.of (Ls := #[.val (.double (FP.l2d pay)), .second, .val (.ref a), .val (.ref b), .unset, .unset, .unset, .unset, .unset, .unset, .unset, .unset, .unset, .unset]) (plainFor_of_name (by first | (simp [plainName, overriddenIn]; done) | decide +kernel)) (fun m => by first | (simp [entryFrame, mkF, argsToLocals, Value.category]; done) | rfl) ?_
  intro p e s m below meth c K
  refine oW.dconst0 (pc' := 1) K d1_0 rfl ?_
  refine oW.dstore (Ls' := #[.val (.double (FP.l2d pay)), .second, .val (.ref a), .val (.ref b), .val (.double (0 : UInt64)), .second, .unset, .unset, .unset, .unset, .unset, .unset, .unset, .unset]) (pc' := 3) K d1_1 rfl rfl ?_
  refine oW.dconst0 (pc' := 4) K d1_3 rfl ?_
  refine oW.dstore (Ls' := #[.val (.double (FP.l2d pay)), .second, .val (.ref a), .val (.ref b), .val (.double (0 : UInt64)), .second, .val (.double (0 : UInt64)), .second, .unset, .unset, .unset, .unset, .unset, .unset]) (pc' := 6) K d1_4 rfl rfl ?_
  refine oW.iconst (v := (0 : Int32)) (pc' := 7) K d1_6 (by decide) rfl ?_
  refine oW.istore (Ls' := #[.val (.double (FP.l2d pay)), .second, .val (.ref a), .val (.ref b), .val (.double (0 : UInt64)), .second, .val (.double (0 : UInt64)), .second, .val (.int (0 : Int32)), .unset, .unset, .unset, .unset, .unset]) (pc' := 9) K d1_7 rfl rfl ?_
  refine oW.iload (pc' := 11) K d1_9 rfl rfl ?_
  refine oW.aloadN (pc' := 12) K d1_11 rfl rfl rfl ?_
  refine oW.alen (i := 0) (v := (2 : Int32)) (pc' := 13) K d1_12 rfl rfl rfl ?_
  refine oW.icmp_ge (pc' := 45) (pc3 := 16) K d1_13 (by decide) (by decide) rfl (fun q => absurd q (by decide)) (fun _ => ?_)
  refine oW.dload (pc' := 18) K d1_16 rfl rfl ?_
  refine oW.aloadN (pc' := 19) K d1_18 rfl rfl rfl ?_
  refine oW.iload (pc' := 21) K d1_19 rfl rfl ?_
  refine oW.daload (i := 1) (k := 0) (pc' := 22) K d1_21 rfl rfl (by decide) rfl rfl ?_
  obtain ⟨v22, ev22⟩ : ∃ z : UInt64, z = FP.dadd (0 : UInt64) (FP.l2d u0) := ⟨_, rfl⟩
  obtain ⟨Lv22, Tv22⟩ := oI64 ((0 : Int64).toInt + u0.toInt) (by first | omega | (have oTs' := oTs; omega) | (simp only [Int32.reduceToInt, Int64.reduceToInt]; omega))
  have lv22 : v22 = FP.l2d Lv22 := oWAdd oL0 rfl ev22 Tv22 (by first | omega | (have oTs' := oTs; omega) | (simp only [Int32.reduceToInt, Int64.reduceToInt]; omega))
  try simp only [Int32.reduceToInt, Int64.reduceToInt] at Tv22
  refine oW.dadd (pc' := 23) K d1_22 ev22 (oMNN (oML2D lv22) (by decide)) rfl ?_
  refine oW.dstore (Ls' := #[.val (.double (FP.l2d pay)), .second, .val (.ref a), .val (.ref b), .val (.double v22), .second, .val (.double (0 : UInt64)), .second, .val (.int (0 : Int32)), .unset, .unset, .unset, .unset, .unset]) (pc' := 25) K d1_23 rfl rfl ?_
  refine oW.dload (pc' := 27) K d1_25 rfl rfl ?_
  refine oW.aloadN (pc' := 28) K d1_27 rfl rfl rfl ?_
  refine oW.iload (pc' := 30) K d1_28 rfl rfl ?_
  refine oW.daload (i := 0) (k := 0) (pc' := 31) K d1_30 rfl rfl (by decide) rfl rfl ?_
  refine oW.aloadN (pc' := 32) K d1_31 rfl rfl rfl ?_
  refine oW.iload (pc' := 34) K d1_32 rfl rfl ?_
  refine oW.daload (i := 1) (k := 0) (pc' := 35) K d1_34 rfl rfl (by decide) rfl rfl ?_
  obtain ⟨v35, ev35⟩ : ∃ z : UInt64, z = FP.dsub (FP.l2d v0) (FP.l2d u0) := ⟨_, rfl⟩
  obtain ⟨Lv35, Tv35⟩ := oI64 (v0.toInt - u0.toInt) (by first | omega | (have oTs' := oTs; omega) | (simp only [Int32.reduceToInt, Int64.reduceToInt]; omega))
  have lv35 : v35 = FP.l2d Lv35 := oWSub rfl rfl ev35 Tv35 (by first | omega | (have oTs' := oTs; omega) | (simp only [Int32.reduceToInt, Int64.reduceToInt]; omega))
  try simp only [Int32.reduceToInt, Int64.reduceToInt] at Tv35
  refine oW.dsub (pc' := 36) K d1_35 ev35 (oMNN (oML2D lv35) (by decide)) rfl ?_
  obtain ⟨v36, ev36⟩ : ∃ z : UInt64, z = FP.dadd (0 : UInt64) v35 := ⟨_, rfl⟩
  obtain ⟨Lv36, Tv36⟩ := oI64 ((0 : Int64).toInt + Lv35.toInt) (by first | omega | (have oTs' := oTs; omega) | (simp only [Int32.reduceToInt, Int64.reduceToInt]; omega))
  have lv36 : v36 = FP.l2d Lv36 := oWAdd oL0 lv35 ev36 Tv36 (by first | omega | (have oTs' := oTs; omega) | (simp only [Int32.reduceToInt, Int64.reduceToInt]; omega))
  try simp only [Int32.reduceToInt, Int64.reduceToInt] at Tv36
  refine oW.dadd (pc' := 37) K d1_36 ev36 (oMNN (oML2D lv36) (by decide)) rfl ?_
  refine oW.dstore (Ls' := #[.val (.double (FP.l2d pay)), .second, .val (.ref a), .val (.ref b), .val (.double v22), .second, .val (.double v36), .second, .val (.int (0 : Int32)), .unset, .unset, .unset, .unset, .unset]) (pc' := 39) K d1_37 rfl rfl ?_
  refine oW.iinc (v := (1 : Int32)) (Ls' := #[.val (.double (FP.l2d pay)), .second, .val (.ref a), .val (.ref b), .val (.double v22), .second, .val (.double v36), .second, .val (.int (1 : Int32)), .unset, .unset, .unset, .unset, .unset]) (pc' := 42) K d1_39 rfl (by decide) rfl rfl ?_
  refine oW.goto (pc' := 9) K d1_42 (by decide) (by decide) ?_
  refine oW.iload (pc' := 11) K d1_9 rfl rfl ?_
  refine oW.aloadN (pc' := 12) K d1_11 rfl rfl rfl ?_
  refine oW.alen (i := 0) (v := (2 : Int32)) (pc' := 13) K d1_12 rfl rfl rfl ?_
  refine oW.icmp_ge (pc' := 45) (pc3 := 16) K d1_13 (by decide) (by decide) rfl (fun q => absurd q (by decide)) (fun _ => ?_)
  refine oW.dload (pc' := 18) K d1_16 rfl rfl ?_
  refine oW.aloadN (pc' := 19) K d1_18 rfl rfl rfl ?_
  refine oW.iload (pc' := 21) K d1_19 rfl rfl ?_
  refine oW.daload (i := 1) (k := 1) (pc' := 22) K d1_21 rfl rfl (by decide) rfl rfl ?_
  obtain ⟨v22_1, ev22_1⟩ : ∃ z : UInt64, z = FP.dadd v22 (FP.l2d u1) := ⟨_, rfl⟩
  obtain ⟨Lv22_1, Tv22_1⟩ := oI64 (Lv22.toInt + u1.toInt) (by first | omega | (have oTs' := oTs; omega) | (simp only [Int32.reduceToInt, Int64.reduceToInt]; omega))
  have lv22_1 : v22_1 = FP.l2d Lv22_1 := oWAdd lv22 rfl ev22_1 Tv22_1 (by first | omega | (have oTs' := oTs; omega) | (simp only [Int32.reduceToInt, Int64.reduceToInt]; omega))
  try simp only [Int32.reduceToInt, Int64.reduceToInt] at Tv22_1
  refine oW.dadd (pc' := 23) K d1_22 ev22_1 (oMNN (oML2D lv22_1) (by decide)) rfl ?_
  refine oW.dstore (Ls' := #[.val (.double (FP.l2d pay)), .second, .val (.ref a), .val (.ref b), .val (.double v22_1), .second, .val (.double v36), .second, .val (.int (1 : Int32)), .unset, .unset, .unset, .unset, .unset]) (pc' := 25) K d1_23 rfl rfl ?_
  refine oW.dload (pc' := 27) K d1_25 rfl rfl ?_
  refine oW.aloadN (pc' := 28) K d1_27 rfl rfl rfl ?_
  refine oW.iload (pc' := 30) K d1_28 rfl rfl ?_
  refine oW.daload (i := 0) (k := 1) (pc' := 31) K d1_30 rfl rfl (by decide) rfl rfl ?_
  refine oW.aloadN (pc' := 32) K d1_31 rfl rfl rfl ?_
  refine oW.iload (pc' := 34) K d1_32 rfl rfl ?_
  refine oW.daload (i := 1) (k := 1) (pc' := 35) K d1_34 rfl rfl (by decide) rfl rfl ?_
  obtain ⟨v35_1, ev35_1⟩ : ∃ z : UInt64, z = FP.dsub (FP.l2d v1) (FP.l2d u1) := ⟨_, rfl⟩
  obtain ⟨Lv35_1, Tv35_1⟩ := oI64 (v1.toInt - u1.toInt) (by first | omega | (have oTs' := oTs; omega) | (simp only [Int32.reduceToInt, Int64.reduceToInt]; omega))
  have lv35_1 : v35_1 = FP.l2d Lv35_1 := oWSub rfl rfl ev35_1 Tv35_1 (by first | omega | (have oTs' := oTs; omega) | (simp only [Int32.reduceToInt, Int64.reduceToInt]; omega))
  try simp only [Int32.reduceToInt, Int64.reduceToInt] at Tv35_1
  refine oW.dsub (pc' := 36) K d1_35 ev35_1 (oMNN (oML2D lv35_1) (by decide)) rfl ?_
  obtain ⟨v36_1, ev36_1⟩ : ∃ z : UInt64, z = FP.dadd v36 v35_1 := ⟨_, rfl⟩
  obtain ⟨Lv36_1, Tv36_1⟩ := oI64 (Lv36.toInt + Lv35_1.toInt) (by first | omega | (have oTs' := oTs; omega) | (simp only [Int32.reduceToInt, Int64.reduceToInt]; omega))
  have lv36_1 : v36_1 = FP.l2d Lv36_1 := oWAdd lv36 lv35_1 ev36_1 Tv36_1 (by first | omega | (have oTs' := oTs; omega) | (simp only [Int32.reduceToInt, Int64.reduceToInt]; omega))
  try simp only [Int32.reduceToInt, Int64.reduceToInt] at Tv36_1
  refine oW.dadd (pc' := 37) K d1_36 ev36_1 (oMNN (oML2D lv36_1) (by decide)) rfl ?_
  refine oW.dstore (Ls' := #[.val (.double (FP.l2d pay)), .second, .val (.ref a), .val (.ref b), .val (.double v22_1), .second, .val (.double v36_1), .second, .val (.int (1 : Int32)), .unset, .unset, .unset, .unset, .unset]) (pc' := 39) K d1_37 rfl rfl ?_
  refine oW.iinc (v := (2 : Int32)) (Ls' := #[.val (.double (FP.l2d pay)), .second, .val (.ref a), .val (.ref b), .val (.double v22_1), .second, .val (.double v36_1), .second, .val (.int (2 : Int32)), .unset, .unset, .unset, .unset, .unset]) (pc' := 42) K d1_39 rfl (by decide) rfl rfl ?_
  refine oW.goto (pc' := 9) K d1_42 (by decide) (by decide) ?_
  refine oW.iload (pc' := 11) K d1_9 rfl rfl ?_
  refine oW.aloadN (pc' := 12) K d1_11 rfl rfl rfl ?_
  refine oW.alen (i := 0) (v := (2 : Int32)) (pc' := 13) K d1_12 rfl rfl rfl ?_
  refine oW.icmp_ge (pc' := 45) (pc3 := 16) K d1_13 (by decide) (by decide) rfl (fun _ => ?_) (fun q => absurd q (by decide))
  refine oW.dloadN (pc' := 46) K d1_45 rfl rfl ?_
  refine oW.dload (pc' := 48) K d1_46 rfl rfl ?_
  obtain ⟨v48, ev48⟩ : ∃ z : UInt64, z = FP.dsub (FP.l2d pay) v22_1 := ⟨_, rfl⟩
  obtain ⟨Lv48, Tv48⟩ := oI64 (pay.toInt - Lv22_1.toInt) (by first | omega | (have oTs' := oTs; omega) | (simp only [Int32.reduceToInt, Int64.reduceToInt]; omega))
  have lv48 : v48 = FP.l2d Lv48 := oWSub rfl lv22_1 ev48 Tv48 (by first | omega | (have oTs' := oTs; omega) | (simp only [Int32.reduceToInt, Int64.reduceToInt]; omega))
  try simp only [Int32.reduceToInt, Int64.reduceToInt] at Tv48
  refine oW.dsub (pc' := 49) K d1_48 ev48 (oMNN (oML2D lv48) (by decide)) rfl ?_
  refine oW.dstore (Ls' := #[.val (.double (FP.l2d pay)), .second, .val (.ref a), .val (.ref b), .val (.double v22_1), .second, .val (.double v36_1), .second, .val (.double v48), .second, .unset, .unset, .unset, .unset]) (pc' := 51) K d1_49 rfl rfl ?_
  refine oW.aloadN (pc' := 52) K d1_51 rfl rfl rfl ?_
  refine oW.alen (i := 0) (v := (2 : Int32)) (pc' := 53) K d1_52 rfl rfl rfl ?_
  refine oW.newarr (n := 2) (cells' := 1) (slots' := 2) (dsf := fun z => [(a, .inl (.double, [(.double (FP.l2d v0)), (.double (FP.l2d v1))])), (b, .inl (.double, [(.double (FP.l2d u0)), (.double (FP.l2d u1))])), (z, .inl (.double, [(.double (0 : UInt64)), (.double (0 : UInt64))]))]) (pc' := 55) K (hw _ (List.mem_of_getElem? (i := 0) rfl)) d1_53 rfl (by decide) (by decide) (by decide) (by decide) rfl rfl (fun _ => rfl) rfl ?_
  intro a53 ha53
  refine oW.astore (Ls' := #[.val (.double (FP.l2d pay)), .second, .val (.ref a), .val (.ref b), .val (.double v22_1), .second, .val (.double v36_1), .second, .val (.double v48), .second, .val (.ref a53), .unset, .unset, .unset]) (pc' := 57) K d1_55 rfl rfl rfl ?_
  refine oW.iconst (v := (0 : Int32)) (pc' := 58) K d1_57 (by decide) rfl ?_
  refine oW.istore (Ls' := #[.val (.double (FP.l2d pay)), .second, .val (.ref a), .val (.ref b), .val (.double v22_1), .second, .val (.double v36_1), .second, .val (.double v48), .second, .val (.ref a53), .val (.int (0 : Int32)), .unset, .unset]) (pc' := 60) K d1_58 rfl rfl ?_
  refine oW.iload (pc' := 62) K d1_60 rfl rfl ?_
  refine oW.aloadN (pc' := 63) K d1_62 rfl rfl rfl ?_
  refine oW.alen (i := 0) (v := (2 : Int32)) (pc' := 64) K d1_63 rfl rfl rfl ?_
  refine oW.icmp_ge (pc' := 118) (pc3 := 67) K d1_64 (by decide) (by decide) rfl (fun q => absurd q (by decide)) (fun _ => ?_)
  refine oW.join (F := fun z : UInt64 => z = oShare X S D0 (4611686018427387904 : UInt64) ∧ oMag 1155 z) (pcj := 98) (Lf := fun z => #[.val (.double (FP.l2d pay)), .second, .val (.ref a), .val (.ref b), .val (.double v22_1), .second, .val (.double v36_1), .second, .val (.double v48), .second, .val (.ref a53), .val (.int (0 : Int32)), .unset, .unset]) (Sf := fun z => [(.double z)]) (dsf := fun z => [(a, .inl (.double, [(.double (FP.l2d v0)), (.double (FP.l2d v1))])), (b, .inl (.double, [(.double (FP.l2d u0)), (.double (FP.l2d u1))])), (a53, .inl (.double, [(.double (0 : UInt64)), (.double (0 : UInt64))]))]) ?_ ?_
  · intro J
    refine oW.dload (pc' := 69) K d1_67 rfl rfl ?_
    refine oW.dconst0 (pc' := 70) K d1_69 rfl ?_
    obtain ⟨v70, ev70⟩ : ∃ z : Int32, z = cmpValue (FP.dcmp v36_1 (0 : UInt64)) .l := ⟨_, rfl⟩
    refine oW.dcmp (pc' := 71) K d1_70 ev70 rfl ?_
    refine oW.if_le (pc' := 92) (pc3 := 74) K d1_71 (by decide) (by decide) rfl (fun c71 => ?_) (fun c71 => ?_)
    · rw [(oCmp (oL2D lv36_1 (by first | omega | (have oTs' := oTs; omega) | (simp only [Int32.reduceToInt, Int64.reduceToInt]; omega))) (oDK 0 (by decide +kernel) (by decide)) ev70).2.2] at c71
      refine oW.dload (pc' := 94) K d1_92 rfl rfl ?_
      refine oW.aloadN (pc' := 95) K d1_94 rfl rfl rfl ?_
      refine oW.alen (i := 0) (v := (2 : Int32)) (pc' := 96) K d1_95 rfl rfl rfl ?_
      refine oW.i2d (v := (4611686018427387904 : UInt64)) (pc' := 97) K d1_96 (by decide +kernel) rfl ?_
      obtain ⟨v97, ev97⟩ : ∃ z : UInt64, z = FP.ddiv v48 (4611686018427387904 : UInt64) := ⟨_, rfl⟩
      have mv97 : oMag 1088 v97 := oMDiv (oML2D lv48) (by unfold Big64; decide : Big64 1024 (4611686018427387904 : UInt64)) ev97 (by decide)
      refine oW.ddiv (pc' := 98) K d1_97 ev97 (oMNN mv97 (by decide)) rfl ?_
      exact J v97 (⟨by rw [oShare, if_neg (by omega)]; rw [ev97, lv48, oEq64.mpr (show Lv48.toInt = X.toInt by omega)], Jvm.Free.Fl.Mag64.mono mv97 (by decide)⟩)
    · rw [(oCmp (oL2D lv36_1 (by first | omega | (have oTs' := oTs; omega) | (simp only [Int32.reduceToInt, Int64.reduceToInt]; omega))) (oDK 0 (by decide +kernel) (by decide)) ev70).2.2] at c71
      refine oW.dload (pc' := 76) K d1_74 rfl rfl ?_
      refine oW.aloadN (pc' := 77) K d1_76 rfl rfl rfl ?_
      refine oW.iload (pc' := 79) K d1_77 rfl rfl ?_
      refine oW.daload (i := 0) (k := 0) (pc' := 80) K d1_79 rfl rfl (by decide) rfl rfl ?_
      refine oW.aloadN (pc' := 81) K d1_80 rfl rfl rfl ?_
      refine oW.iload (pc' := 83) K d1_81 rfl rfl ?_
      refine oW.daload (i := 1) (k := 0) (pc' := 84) K d1_83 rfl rfl (by decide) rfl rfl ?_
      obtain ⟨v84, ev84⟩ : ∃ z : UInt64, z = FP.dsub (FP.l2d v0) (FP.l2d u0) := ⟨_, rfl⟩
      obtain ⟨Lv84, Tv84⟩ := oI64 (v0.toInt - u0.toInt) (by first | omega | (have oTs' := oTs; omega) | (simp only [Int32.reduceToInt, Int64.reduceToInt]; omega))
      have lv84 : v84 = FP.l2d Lv84 := oWSub rfl rfl ev84 Tv84 (by first | omega | (have oTs' := oTs; omega) | (simp only [Int32.reduceToInt, Int64.reduceToInt]; omega))
      try simp only [Int32.reduceToInt, Int64.reduceToInt] at Tv84
      refine oW.dsub (pc' := 85) K d1_84 ev84 (oMNN (oML2D lv84) (by decide)) rfl ?_
      obtain ⟨v85, ev85⟩ : ∃ z : UInt64, z = FP.dmul v48 v84 := ⟨_, rfl⟩
      have mv85 : oMag 1154 v85 := oMMul (oML2D lv48) (oML2D lv84) ev85 (by decide)
      refine oW.dmul (pc' := 86) K d1_85 ev85 (oMNN mv85 (by decide)) rfl ?_
      refine oW.dload (pc' := 88) K d1_86 rfl rfl ?_
      obtain ⟨v88, ev88⟩ : ∃ z : UInt64, z = FP.ddiv v85 v36_1 := ⟨_, rfl⟩
      have mv88 : oMag 1155 v88 := oMDiv mv85 (oBigL lv36_1 (by first | omega | (have oTs' := oTs; omega) | (simp only [Int32.reduceToInt, Int64.reduceToInt]; omega))) ev88 (by decide)
      refine oW.ddiv (pc' := 89) K d1_88 ev88 (oMNN mv88 (by decide)) rfl ?_
      refine oW.goto (pc' := 98) K d1_89 (by decide) (by decide) ?_
      exact J v88 (⟨by rw [oShare, if_pos (by omega)]; rw [ev88, ev85, lv48, lv84, lv36_1, oEq64.mpr (show Lv48.toInt = X.toInt by omega), oEq64.mpr (show Lv84.toInt = D0.toInt by omega), oEq64.mpr (show Lv36_1.toInt = S.toInt by omega)], mv88⟩)
  intro sh hsh
  obtain ⟨gsh, msh⟩ := hsh
  refine oW.dstore (Ls' := #[.val (.double (FP.l2d pay)), .second, .val (.ref a), .val (.ref b), .val (.double v22_1), .second, .val (.double v36_1), .second, .val (.double v48), .second, .val (.ref a53), .val (.int (0 : Int32)), .val (.double sh), .second]) (pc' := 100) K d1_98 rfl rfl ?_
  refine oW.aload (pc' := 102) K d1_100 rfl rfl rfl ?_
  refine oW.iload (pc' := 104) K d1_102 rfl rfl ?_
  refine oW.aloadN (pc' := 105) K d1_104 rfl rfl rfl ?_
  refine oW.iload (pc' := 107) K d1_105 rfl rfl ?_
  refine oW.daload (i := 1) (k := 0) (pc' := 108) K d1_107 rfl rfl (by decide) rfl rfl ?_
  refine oW.dload (pc' := 110) K d1_108 rfl rfl ?_
  obtain ⟨v110, ev110⟩ : ∃ z : UInt64, z = FP.dadd (FP.l2d u0) sh := ⟨_, rfl⟩
  have mv110 : oMag 1157 v110 := oMAdd (A := 1155) (Jvm.Free.Fl.Mag64.mono (oML2D rfl) (by decide)) msh ev110 (by decide)
  refine oW.dadd (pc' := 111) K d1_110 ev110 (oMNN mv110 (by decide)) rfl ?_
  refine oW.dastore (i := 2) (k := 0) (ds' := [(a, .inl (.double, [(.double (FP.l2d v0)), (.double (FP.l2d v1))])), (b, .inl (.double, [(.double (FP.l2d u0)), (.double (FP.l2d u1))])), (a53, .inl (.double, [(.double v110), (.double (0 : UInt64))]))]) (pc' := 112) K d1_111 rfl rfl (by decide) (Nat.lt_of_sub_eq_succ rfl) rfl rfl ?_
  refine oW.iinc (v := (1 : Int32)) (Ls' := #[.val (.double (FP.l2d pay)), .second, .val (.ref a), .val (.ref b), .val (.double v22_1), .second, .val (.double v36_1), .second, .val (.double v48), .second, .val (.ref a53), .val (.int (1 : Int32)), .val (.double sh), .second]) (pc' := 115) K d1_112 rfl (by decide) rfl rfl ?_
  refine oW.goto (pc' := 60) K d1_115 (by decide) (by decide) ?_
  refine oW.iload (pc' := 62) K d1_60 rfl rfl ?_
  refine oW.aloadN (pc' := 63) K d1_62 rfl rfl rfl ?_
  refine oW.alen (i := 0) (v := (2 : Int32)) (pc' := 64) K d1_63 rfl rfl rfl ?_
  refine oW.icmp_ge (pc' := 118) (pc3 := 67) K d1_64 (by decide) (by decide) rfl (fun q => absurd q (by decide)) (fun _ => ?_)
  refine oW.join (F := fun z : UInt64 => z = oShare X S D1 (4611686018427387904 : UInt64) ∧ oMag 1155 z) (pcj := 98) (Lf := fun z => #[.val (.double (FP.l2d pay)), .second, .val (.ref a), .val (.ref b), .val (.double v22_1), .second, .val (.double v36_1), .second, .val (.double v48), .second, .val (.ref a53), .val (.int (1 : Int32)), .val (.double sh), .second]) (Sf := fun z => [(.double z)]) (dsf := fun z => [(a, .inl (.double, [(.double (FP.l2d v0)), (.double (FP.l2d v1))])), (b, .inl (.double, [(.double (FP.l2d u0)), (.double (FP.l2d u1))])), (a53, .inl (.double, [(.double v110), (.double (0 : UInt64))]))]) ?_ ?_
  · intro J
    refine oW.dload (pc' := 69) K d1_67 rfl rfl ?_
    refine oW.dconst0 (pc' := 70) K d1_69 rfl ?_
    obtain ⟨v70, ev70⟩ : ∃ z : Int32, z = cmpValue (FP.dcmp v36_1 (0 : UInt64)) .l := ⟨_, rfl⟩
    refine oW.dcmp (pc' := 71) K d1_70 ev70 rfl ?_
    refine oW.if_le (pc' := 92) (pc3 := 74) K d1_71 (by decide) (by decide) rfl (fun c71 => ?_) (fun c71 => ?_)
    · rw [(oCmp (oL2D lv36_1 (by first | omega | (have oTs' := oTs; omega) | (simp only [Int32.reduceToInt, Int64.reduceToInt]; omega))) (oDK 0 (by decide +kernel) (by decide)) ev70).2.2] at c71
      refine oW.dload (pc' := 94) K d1_92 rfl rfl ?_
      refine oW.aloadN (pc' := 95) K d1_94 rfl rfl rfl ?_
      refine oW.alen (i := 0) (v := (2 : Int32)) (pc' := 96) K d1_95 rfl rfl rfl ?_
      refine oW.i2d (v := (4611686018427387904 : UInt64)) (pc' := 97) K d1_96 (by decide +kernel) rfl ?_
      obtain ⟨v97, ev97⟩ : ∃ z : UInt64, z = FP.ddiv v48 (4611686018427387904 : UInt64) := ⟨_, rfl⟩
      have mv97 : oMag 1088 v97 := oMDiv (oML2D lv48) (by unfold Big64; decide : Big64 1024 (4611686018427387904 : UInt64)) ev97 (by decide)
      refine oW.ddiv (pc' := 98) K d1_97 ev97 (oMNN mv97 (by decide)) rfl ?_
      exact J v97 (⟨by rw [oShare, if_neg (by omega)]; rw [ev97, lv48, oEq64.mpr (show Lv48.toInt = X.toInt by omega)], Jvm.Free.Fl.Mag64.mono mv97 (by decide)⟩)
    · rw [(oCmp (oL2D lv36_1 (by first | omega | (have oTs' := oTs; omega) | (simp only [Int32.reduceToInt, Int64.reduceToInt]; omega))) (oDK 0 (by decide +kernel) (by decide)) ev70).2.2] at c71
      refine oW.dload (pc' := 76) K d1_74 rfl rfl ?_
      refine oW.aloadN (pc' := 77) K d1_76 rfl rfl rfl ?_
      refine oW.iload (pc' := 79) K d1_77 rfl rfl ?_
      refine oW.daload (i := 0) (k := 1) (pc' := 80) K d1_79 rfl rfl (by decide) rfl rfl ?_
      refine oW.aloadN (pc' := 81) K d1_80 rfl rfl rfl ?_
      refine oW.iload (pc' := 83) K d1_81 rfl rfl ?_
      refine oW.daload (i := 1) (k := 1) (pc' := 84) K d1_83 rfl rfl (by decide) rfl rfl ?_
      obtain ⟨v84, ev84⟩ : ∃ z : UInt64, z = FP.dsub (FP.l2d v1) (FP.l2d u1) := ⟨_, rfl⟩
      obtain ⟨Lv84, Tv84⟩ := oI64 (v1.toInt - u1.toInt) (by first | omega | (have oTs' := oTs; omega) | (simp only [Int32.reduceToInt, Int64.reduceToInt]; omega))
      have lv84 : v84 = FP.l2d Lv84 := oWSub rfl rfl ev84 Tv84 (by first | omega | (have oTs' := oTs; omega) | (simp only [Int32.reduceToInt, Int64.reduceToInt]; omega))
      try simp only [Int32.reduceToInt, Int64.reduceToInt] at Tv84
      refine oW.dsub (pc' := 85) K d1_84 ev84 (oMNN (oML2D lv84) (by decide)) rfl ?_
      obtain ⟨v85, ev85⟩ : ∃ z : UInt64, z = FP.dmul v48 v84 := ⟨_, rfl⟩
      have mv85 : oMag 1154 v85 := oMMul (oML2D lv48) (oML2D lv84) ev85 (by decide)
      refine oW.dmul (pc' := 86) K d1_85 ev85 (oMNN mv85 (by decide)) rfl ?_
      refine oW.dload (pc' := 88) K d1_86 rfl rfl ?_
      obtain ⟨v88, ev88⟩ : ∃ z : UInt64, z = FP.ddiv v85 v36_1 := ⟨_, rfl⟩
      have mv88 : oMag 1155 v88 := oMDiv mv85 (oBigL lv36_1 (by first | omega | (have oTs' := oTs; omega) | (simp only [Int32.reduceToInt, Int64.reduceToInt]; omega))) ev88 (by decide)
      refine oW.ddiv (pc' := 89) K d1_88 ev88 (oMNN mv88 (by decide)) rfl ?_
      refine oW.goto (pc' := 98) K d1_89 (by decide) (by decide) ?_
      exact J v88 (⟨by rw [oShare, if_pos (by omega)]; rw [ev88, ev85, lv48, lv84, lv36_1, oEq64.mpr (show Lv48.toInt = X.toInt by omega), oEq64.mpr (show Lv84.toInt = D1.toInt by omega), oEq64.mpr (show Lv36_1.toInt = S.toInt by omega)], mv88⟩)
  intro sh_1 hsh_1
  obtain ⟨gsh_1, msh_1⟩ := hsh_1
  refine oW.dstore (Ls' := #[.val (.double (FP.l2d pay)), .second, .val (.ref a), .val (.ref b), .val (.double v22_1), .second, .val (.double v36_1), .second, .val (.double v48), .second, .val (.ref a53), .val (.int (1 : Int32)), .val (.double sh_1), .second]) (pc' := 100) K d1_98 rfl rfl ?_
  refine oW.aload (pc' := 102) K d1_100 rfl rfl rfl ?_
  refine oW.iload (pc' := 104) K d1_102 rfl rfl ?_
  refine oW.aloadN (pc' := 105) K d1_104 rfl rfl rfl ?_
  refine oW.iload (pc' := 107) K d1_105 rfl rfl ?_
  refine oW.daload (i := 1) (k := 1) (pc' := 108) K d1_107 rfl rfl (by decide) rfl rfl ?_
  refine oW.dload (pc' := 110) K d1_108 rfl rfl ?_
  obtain ⟨v110_1, ev110_1⟩ : ∃ z : UInt64, z = FP.dadd (FP.l2d u1) sh_1 := ⟨_, rfl⟩
  have mv110_1 : oMag 1157 v110_1 := oMAdd (A := 1155) (Jvm.Free.Fl.Mag64.mono (oML2D rfl) (by decide)) msh_1 ev110_1 (by decide)
  refine oW.dadd (pc' := 111) K d1_110 ev110_1 (oMNN mv110_1 (by decide)) rfl ?_
  refine oW.dastore (i := 2) (k := 1) (ds' := [(a, .inl (.double, [(.double (FP.l2d v0)), (.double (FP.l2d v1))])), (b, .inl (.double, [(.double (FP.l2d u0)), (.double (FP.l2d u1))])), (a53, .inl (.double, [(.double v110), (.double v110_1)]))]) (pc' := 112) K d1_111 rfl rfl (by decide) (Nat.lt_of_sub_eq_succ rfl) rfl rfl ?_
  refine oW.iinc (v := (2 : Int32)) (Ls' := #[.val (.double (FP.l2d pay)), .second, .val (.ref a), .val (.ref b), .val (.double v22_1), .second, .val (.double v36_1), .second, .val (.double v48), .second, .val (.ref a53), .val (.int (2 : Int32)), .val (.double sh_1), .second]) (pc' := 115) K d1_112 rfl (by decide) rfl rfl ?_
  refine oW.goto (pc' := 60) K d1_115 (by decide) (by decide) ?_
  refine oW.iload (pc' := 62) K d1_60 rfl rfl ?_
  refine oW.aloadN (pc' := 63) K d1_62 rfl rfl rfl ?_
  refine oW.alen (i := 0) (v := (2 : Int32)) (pc' := 64) K d1_63 rfl rfl rfl ?_
  refine oW.icmp_ge (pc' := 118) (pc3 := 67) K d1_64 (by decide) (by decide) rfl (fun _ => ?_) (fun q => absurd q (by decide))
  refine oW.aload (pc' := 120) K d1_118 rfl rfl rfl ?_
  exact oW.retA K rfl rfl rfl d1_120 (by decide) (by decide) ⟨_, rfl, _, _, _, rfl, ev110.trans (by rw [gsh]), oMNN mv110 (by decide), ev110_1.trans (by rw [gsh_1]), oMNN mv110_1 (by decide), rfl⟩
set_option maxRecDepth 65536 in
set_option maxHeartbeats 40000000 in
theorem own_sp3 {l : Launch} {Z : State} {a0 : Array Value} {h0 : Heap} (hw : ∀ d ∈ tables_1, d.before a0 Z = true) (a b : Addr) (pay X S : Int64) (bpay : -2147483648 ≤ pay.toInt ∧ pay.toInt ≤ 2147483647) (v0 u0 D0 : Int64) (bv0 : -2147483648 ≤ v0.toInt ∧ v0.toInt ≤ 2147483647) (bu0 : -2147483648 ≤ u0.toInt ∧ u0.toInt ≤ 2147483647) (hD0 : D0.toInt = v0.toInt - u0.toInt) (v1 u1 D1 : Int64) (bv1 : -2147483648 ≤ v1.toInt ∧ v1.toInt ≤ 2147483647) (bu1 : -2147483648 ≤ u1.toInt ∧ u1.toInt ≤ 2147483647) (hD1 : D1.toInt = v1.toInt - u1.toInt) (v2 u2 D2 : Int64) (bv2 : -2147483648 ≤ v2.toInt ∧ v2.toInt ≤ 2147483647) (bu2 : -2147483648 ≤ u2.toInt ∧ u2.toInt ≤ 2147483647) (hD2 : D2.toInt = v2.toInt - u2.toInt) (hX : X.toInt = pay.toInt - (0 + u0.toInt + u1.toInt + u2.toInt)) (hS : S.toInt = 0 + (v0.toInt - u0.toInt) + (v1.toInt - u1.toInt) + (v2.toInt - u2.toInt)) :
    oCtr l Z h0 [] (⟨"com/example/lotwise/lotwise/auction/PauseAuction", "spread", "(D[D[D)[D"⟩ : MethodName) prog_4_method_8_code 14 (some (.array .double)) ({ frames := 0, cells := 1, slots := 3, locals := 0 } : Room) #[(.double (FP.l2d pay)), (.ref a), (.ref b)] [(a, .inl (.double, [(.double (FP.l2d v0)), (.double (FP.l2d v1)), (.double (FP.l2d v2))])), (b, .inl (.double, [(.double (FP.l2d u0)), (.double (FP.l2d u1)), (.double (FP.l2d u2))]))] (oVal fun w d => ∃ (c : Addr) (y0 y1 y2 : UInt64), w = .ref c ∧ y0 = FP.dadd (FP.l2d u0) (oShare X S D0 (4613937818241073152 : UInt64)) ∧ Jvm.Free.Fl.NoNaN64 y0 ∧ y1 = FP.dadd (FP.l2d u1) (oShare X S D1 (4613937818241073152 : UInt64)) ∧ Jvm.Free.Fl.NoNaN64 y1 ∧ y2 = FP.dadd (FP.l2d u2) (oShare X S D2 (4613937818241073152 : UInt64)) ∧ Jvm.Free.Fl.NoNaN64 y2 ∧ d = [(a, .inl (.double, [(.double (FP.l2d v0)), (.double (FP.l2d v1)), (.double (FP.l2d v2))])), (b, .inl (.double, [(.double (FP.l2d u0)), (.double (FP.l2d u1)), (.double (FP.l2d u2))])), (c, .inl (.double, [(.double y0), (.double y1), (.double y2)]))]) := by
  refine oCtr.of (Ls := #[.val (.double (FP.l2d pay)), .second, .val (.ref a), .val (.ref b), .unset, .unset, .unset, .unset, .unset, .unset, .unset, .unset, .unset, .unset]) (plainFor_of_name (by first | (simp [plainName, overriddenIn]; done) | decide +kernel)) (fun m => by first | (simp [entryFrame, mkF, argsToLocals, Value.category]; done) | rfl) ?_
  intro p e s m below meth c K
  refine oW.dconst0 (pc' := 1) K d1_0 rfl ?_
  refine oW.dstore (Ls' := #[.val (.double (FP.l2d pay)), .second, .val (.ref a), .val (.ref b), .val (.double (0 : UInt64)), .second, .unset, .unset, .unset, .unset, .unset, .unset, .unset, .unset]) (pc' := 3) K d1_1 rfl rfl ?_
  refine oW.dconst0 (pc' := 4) K d1_3 rfl ?_
  refine oW.dstore (Ls' := #[.val (.double (FP.l2d pay)), .second, .val (.ref a), .val (.ref b), .val (.double (0 : UInt64)), .second, .val (.double (0 : UInt64)), .second, .unset, .unset, .unset, .unset, .unset, .unset]) (pc' := 6) K d1_4 rfl rfl ?_
  refine oW.iconst (v := (0 : Int32)) (pc' := 7) K d1_6 (by decide) rfl ?_
  refine oW.istore (Ls' := #[.val (.double (FP.l2d pay)), .second, .val (.ref a), .val (.ref b), .val (.double (0 : UInt64)), .second, .val (.double (0 : UInt64)), .second, .val (.int (0 : Int32)), .unset, .unset, .unset, .unset, .unset]) (pc' := 9) K d1_7 rfl rfl ?_
  refine oW.iload (pc' := 11) K d1_9 rfl rfl ?_
  refine oW.aloadN (pc' := 12) K d1_11 rfl rfl rfl ?_
  refine oW.alen (i := 0) (v := (3 : Int32)) (pc' := 13) K d1_12 rfl rfl rfl ?_
  refine oW.icmp_ge (pc' := 45) (pc3 := 16) K d1_13 (by decide) (by decide) rfl (fun q => absurd q (by decide)) (fun _ => ?_)
  refine oW.dload (pc' := 18) K d1_16 rfl rfl ?_
  refine oW.aloadN (pc' := 19) K d1_18 rfl rfl rfl ?_
  refine oW.iload (pc' := 21) K d1_19 rfl rfl ?_
  refine oW.daload (i := 1) (k := 0) (pc' := 22) K d1_21 rfl rfl (by decide) rfl rfl ?_
  obtain ⟨v22, ev22⟩ : ∃ z : UInt64, z = FP.dadd (0 : UInt64) (FP.l2d u0) := ⟨_, rfl⟩
  obtain ⟨Lv22, Tv22⟩ := oI64 ((0 : Int64).toInt + u0.toInt) (by first | omega | (have oTs' := oTs; omega) | (simp only [Int32.reduceToInt, Int64.reduceToInt]; omega))
  have lv22 : v22 = FP.l2d Lv22 := oWAdd oL0 rfl ev22 Tv22 (by first | omega | (have oTs' := oTs; omega) | (simp only [Int32.reduceToInt, Int64.reduceToInt]; omega))
  try simp only [Int32.reduceToInt, Int64.reduceToInt] at Tv22
  refine oW.dadd (pc' := 23) K d1_22 ev22 (oMNN (oML2D lv22) (by decide)) rfl ?_
  refine oW.dstore (Ls' := #[.val (.double (FP.l2d pay)), .second, .val (.ref a), .val (.ref b), .val (.double v22), .second, .val (.double (0 : UInt64)), .second, .val (.int (0 : Int32)), .unset, .unset, .unset, .unset, .unset]) (pc' := 25) K d1_23 rfl rfl ?_
  refine oW.dload (pc' := 27) K d1_25 rfl rfl ?_
  refine oW.aloadN (pc' := 28) K d1_27 rfl rfl rfl ?_
  refine oW.iload (pc' := 30) K d1_28 rfl rfl ?_
  refine oW.daload (i := 0) (k := 0) (pc' := 31) K d1_30 rfl rfl (by decide) rfl rfl ?_
  refine oW.aloadN (pc' := 32) K d1_31 rfl rfl rfl ?_
  refine oW.iload (pc' := 34) K d1_32 rfl rfl ?_
  refine oW.daload (i := 1) (k := 0) (pc' := 35) K d1_34 rfl rfl (by decide) rfl rfl ?_
  obtain ⟨v35, ev35⟩ : ∃ z : UInt64, z = FP.dsub (FP.l2d v0) (FP.l2d u0) := ⟨_, rfl⟩
  obtain ⟨Lv35, Tv35⟩ := oI64 (v0.toInt - u0.toInt) (by first | omega | (have oTs' := oTs; omega) | (simp only [Int32.reduceToInt, Int64.reduceToInt]; omega))
  have lv35 : v35 = FP.l2d Lv35 := oWSub rfl rfl ev35 Tv35 (by first | omega | (have oTs' := oTs; omega) | (simp only [Int32.reduceToInt, Int64.reduceToInt]; omega))
  try simp only [Int32.reduceToInt, Int64.reduceToInt] at Tv35
  refine oW.dsub (pc' := 36) K d1_35 ev35 (oMNN (oML2D lv35) (by decide)) rfl ?_
  obtain ⟨v36, ev36⟩ : ∃ z : UInt64, z = FP.dadd (0 : UInt64) v35 := ⟨_, rfl⟩
  obtain ⟨Lv36, Tv36⟩ := oI64 ((0 : Int64).toInt + Lv35.toInt) (by first | omega | (have oTs' := oTs; omega) | (simp only [Int32.reduceToInt, Int64.reduceToInt]; omega))
  have lv36 : v36 = FP.l2d Lv36 := oWAdd oL0 lv35 ev36 Tv36 (by first | omega | (have oTs' := oTs; omega) | (simp only [Int32.reduceToInt, Int64.reduceToInt]; omega))
  try simp only [Int32.reduceToInt, Int64.reduceToInt] at Tv36
  refine oW.dadd (pc' := 37) K d1_36 ev36 (oMNN (oML2D lv36) (by decide)) rfl ?_
  refine oW.dstore (Ls' := #[.val (.double (FP.l2d pay)), .second, .val (.ref a), .val (.ref b), .val (.double v22), .second, .val (.double v36), .second, .val (.int (0 : Int32)), .unset, .unset, .unset, .unset, .unset]) (pc' := 39) K d1_37 rfl rfl ?_
  refine oW.iinc (v := (1 : Int32)) (Ls' := #[.val (.double (FP.l2d pay)), .second, .val (.ref a), .val (.ref b), .val (.double v22), .second, .val (.double v36), .second, .val (.int (1 : Int32)), .unset, .unset, .unset, .unset, .unset]) (pc' := 42) K d1_39 rfl (by decide) rfl rfl ?_
  refine oW.goto (pc' := 9) K d1_42 (by decide) (by decide) ?_
  refine oW.iload (pc' := 11) K d1_9 rfl rfl ?_
  refine oW.aloadN (pc' := 12) K d1_11 rfl rfl rfl ?_
  refine oW.alen (i := 0) (v := (3 : Int32)) (pc' := 13) K d1_12 rfl rfl rfl ?_
  refine oW.icmp_ge (pc' := 45) (pc3 := 16) K d1_13 (by decide) (by decide) rfl (fun q => absurd q (by decide)) (fun _ => ?_)
  refine oW.dload (pc' := 18) K d1_16 rfl rfl ?_
  refine oW.aloadN (pc' := 19) K d1_18 rfl rfl rfl ?_
  refine oW.iload (pc' := 21) K d1_19 rfl rfl ?_
  refine oW.daload (i := 1) (k := 1) (pc' := 22) K d1_21 rfl rfl (by decide) rfl rfl ?_
  obtain ⟨v22_1, ev22_1⟩ : ∃ z : UInt64, z = FP.dadd v22 (FP.l2d u1) := ⟨_, rfl⟩
  obtain ⟨Lv22_1, Tv22_1⟩ := oI64 (Lv22.toInt + u1.toInt) (by first | omega | (have oTs' := oTs; omega) | (simp only [Int32.reduceToInt, Int64.reduceToInt]; omega))
  have lv22_1 : v22_1 = FP.l2d Lv22_1 := oWAdd lv22 rfl ev22_1 Tv22_1 (by first | omega | (have oTs' := oTs; omega) | (simp only [Int32.reduceToInt, Int64.reduceToInt]; omega))
  try simp only [Int32.reduceToInt, Int64.reduceToInt] at Tv22_1
  refine oW.dadd (pc' := 23) K d1_22 ev22_1 (oMNN (oML2D lv22_1) (by decide)) rfl ?_
  refine oW.dstore (Ls' := #[.val (.double (FP.l2d pay)), .second, .val (.ref a), .val (.ref b), .val (.double v22_1), .second, .val (.double v36), .second, .val (.int (1 : Int32)), .unset, .unset, .unset, .unset, .unset]) (pc' := 25) K d1_23 rfl rfl ?_
  refine oW.dload (pc' := 27) K d1_25 rfl rfl ?_
  refine oW.aloadN (pc' := 28) K d1_27 rfl rfl rfl ?_
  refine oW.iload (pc' := 30) K d1_28 rfl rfl ?_
  refine oW.daload (i := 0) (k := 1) (pc' := 31) K d1_30 rfl rfl (by decide) rfl rfl ?_
  refine oW.aloadN (pc' := 32) K d1_31 rfl rfl rfl ?_
  refine oW.iload (pc' := 34) K d1_32 rfl rfl ?_
  refine oW.daload (i := 1) (k := 1) (pc' := 35) K d1_34 rfl rfl (by decide) rfl rfl ?_
  obtain ⟨v35_1, ev35_1⟩ : ∃ z : UInt64, z = FP.dsub (FP.l2d v1) (FP.l2d u1) := ⟨_, rfl⟩
  obtain ⟨Lv35_1, Tv35_1⟩ := oI64 (v1.toInt - u1.toInt) (by first | omega | (have oTs' := oTs; omega) | (simp only [Int32.reduceToInt, Int64.reduceToInt]; omega))
  have lv35_1 : v35_1 = FP.l2d Lv35_1 := oWSub rfl rfl ev35_1 Tv35_1 (by first | omega | (have oTs' := oTs; omega) | (simp only [Int32.reduceToInt, Int64.reduceToInt]; omega))
  try simp only [Int32.reduceToInt, Int64.reduceToInt] at Tv35_1
  refine oW.dsub (pc' := 36) K d1_35 ev35_1 (oMNN (oML2D lv35_1) (by decide)) rfl ?_
  obtain ⟨v36_1, ev36_1⟩ : ∃ z : UInt64, z = FP.dadd v36 v35_1 := ⟨_, rfl⟩
  obtain ⟨Lv36_1, Tv36_1⟩ := oI64 (Lv36.toInt + Lv35_1.toInt) (by first | omega | (have oTs' := oTs; omega) | (simp only [Int32.reduceToInt, Int64.reduceToInt]; omega))
  have lv36_1 : v36_1 = FP.l2d Lv36_1 := oWAdd lv36 lv35_1 ev36_1 Tv36_1 (by first | omega | (have oTs' := oTs; omega) | (simp only [Int32.reduceToInt, Int64.reduceToInt]; omega))
  try simp only [Int32.reduceToInt, Int64.reduceToInt] at Tv36_1
  refine oW.dadd (pc' := 37) K d1_36 ev36_1 (oMNN (oML2D lv36_1) (by decide)) rfl ?_
  refine oW.dstore (Ls' := #[.val (.double (FP.l2d pay)), .second, .val (.ref a), .val (.ref b), .val (.double v22_1), .second, .val (.double v36_1), .second, .val (.int (1 : Int32)), .unset, .unset, .unset, .unset, .unset]) (pc' := 39) K d1_37 rfl rfl ?_
  refine oW.iinc (v := (2 : Int32)) (Ls' := #[.val (.double (FP.l2d pay)), .second, .val (.ref a), .val (.ref b), .val (.double v22_1), .second, .val (.double v36_1), .second, .val (.int (2 : Int32)), .unset, .unset, .unset, .unset, .unset]) (pc' := 42) K d1_39 rfl (by decide) rfl rfl ?_
  refine oW.goto (pc' := 9) K d1_42 (by decide) (by decide) ?_
  refine oW.iload (pc' := 11) K d1_9 rfl rfl ?_
  refine oW.aloadN (pc' := 12) K d1_11 rfl rfl rfl ?_
  refine oW.alen (i := 0) (v := (3 : Int32)) (pc' := 13) K d1_12 rfl rfl rfl ?_
  refine oW.icmp_ge (pc' := 45) (pc3 := 16) K d1_13 (by decide) (by decide) rfl (fun q => absurd q (by decide)) (fun _ => ?_)
  refine oW.dload (pc' := 18) K d1_16 rfl rfl ?_
  refine oW.aloadN (pc' := 19) K d1_18 rfl rfl rfl ?_
  refine oW.iload (pc' := 21) K d1_19 rfl rfl ?_
  refine oW.daload (i := 1) (k := 2) (pc' := 22) K d1_21 rfl rfl (by decide) rfl rfl ?_
  obtain ⟨v22_2, ev22_2⟩ : ∃ z : UInt64, z = FP.dadd v22_1 (FP.l2d u2) := ⟨_, rfl⟩
  obtain ⟨Lv22_2, Tv22_2⟩ := oI64 (Lv22_1.toInt + u2.toInt) (by first | omega | (have oTs' := oTs; omega) | (simp only [Int32.reduceToInt, Int64.reduceToInt]; omega))
  have lv22_2 : v22_2 = FP.l2d Lv22_2 := oWAdd lv22_1 rfl ev22_2 Tv22_2 (by first | omega | (have oTs' := oTs; omega) | (simp only [Int32.reduceToInt, Int64.reduceToInt]; omega))
  try simp only [Int32.reduceToInt, Int64.reduceToInt] at Tv22_2
  refine oW.dadd (pc' := 23) K d1_22 ev22_2 (oMNN (oML2D lv22_2) (by decide)) rfl ?_
  refine oW.dstore (Ls' := #[.val (.double (FP.l2d pay)), .second, .val (.ref a), .val (.ref b), .val (.double v22_2), .second, .val (.double v36_1), .second, .val (.int (2 : Int32)), .unset, .unset, .unset, .unset, .unset]) (pc' := 25) K d1_23 rfl rfl ?_
  refine oW.dload (pc' := 27) K d1_25 rfl rfl ?_
  refine oW.aloadN (pc' := 28) K d1_27 rfl rfl rfl ?_
  refine oW.iload (pc' := 30) K d1_28 rfl rfl ?_
  refine oW.daload (i := 0) (k := 2) (pc' := 31) K d1_30 rfl rfl (by decide) rfl rfl ?_
  refine oW.aloadN (pc' := 32) K d1_31 rfl rfl rfl ?_
  refine oW.iload (pc' := 34) K d1_32 rfl rfl ?_
  refine oW.daload (i := 1) (k := 2) (pc' := 35) K d1_34 rfl rfl (by decide) rfl rfl ?_
  obtain ⟨v35_2, ev35_2⟩ : ∃ z : UInt64, z = FP.dsub (FP.l2d v2) (FP.l2d u2) := ⟨_, rfl⟩
  obtain ⟨Lv35_2, Tv35_2⟩ := oI64 (v2.toInt - u2.toInt) (by first | omega | (have oTs' := oTs; omega) | (simp only [Int32.reduceToInt, Int64.reduceToInt]; omega))
  have lv35_2 : v35_2 = FP.l2d Lv35_2 := oWSub rfl rfl ev35_2 Tv35_2 (by first | omega | (have oTs' := oTs; omega) | (simp only [Int32.reduceToInt, Int64.reduceToInt]; omega))
  try simp only [Int32.reduceToInt, Int64.reduceToInt] at Tv35_2
  refine oW.dsub (pc' := 36) K d1_35 ev35_2 (oMNN (oML2D lv35_2) (by decide)) rfl ?_
  obtain ⟨v36_2, ev36_2⟩ : ∃ z : UInt64, z = FP.dadd v36_1 v35_2 := ⟨_, rfl⟩
  obtain ⟨Lv36_2, Tv36_2⟩ := oI64 (Lv36_1.toInt + Lv35_2.toInt) (by first | omega | (have oTs' := oTs; omega) | (simp only [Int32.reduceToInt, Int64.reduceToInt]; omega))
  have lv36_2 : v36_2 = FP.l2d Lv36_2 := oWAdd lv36_1 lv35_2 ev36_2 Tv36_2 (by first | omega | (have oTs' := oTs; omega) | (simp only [Int32.reduceToInt, Int64.reduceToInt]; omega))
  try simp only [Int32.reduceToInt, Int64.reduceToInt] at Tv36_2
  refine oW.dadd (pc' := 37) K d1_36 ev36_2 (oMNN (oML2D lv36_2) (by decide)) rfl ?_
  refine oW.dstore (Ls' := #[.val (.double (FP.l2d pay)), .second, .val (.ref a), .val (.ref b), .val (.double v22_2), .second, .val (.double v36_2), .second, .val (.int (2 : Int32)), .unset, .unset, .unset, .unset, .unset]) (pc' := 39) K d1_37 rfl rfl ?_
  refine oW.iinc (v := (3 : Int32)) (Ls' := #[.val (.double (FP.l2d pay)), .second, .val (.ref a), .val (.ref b), .val (.double v22_2), .second, .val (.double v36_2), .second, .val (.int (3 : Int32)), .unset, .unset, .unset, .unset, .unset]) (pc' := 42) K d1_39 rfl (by decide) rfl rfl ?_
  refine oW.goto (pc' := 9) K d1_42 (by decide) (by decide) ?_
  refine oW.iload (pc' := 11) K d1_9 rfl rfl ?_
  refine oW.aloadN (pc' := 12) K d1_11 rfl rfl rfl ?_
  refine oW.alen (i := 0) (v := (3 : Int32)) (pc' := 13) K d1_12 rfl rfl rfl ?_
  refine oW.icmp_ge (pc' := 45) (pc3 := 16) K d1_13 (by decide) (by decide) rfl (fun _ => ?_) (fun q => absurd q (by decide))
  refine oW.dloadN (pc' := 46) K d1_45 rfl rfl ?_
  refine oW.dload (pc' := 48) K d1_46 rfl rfl ?_
  obtain ⟨v48, ev48⟩ : ∃ z : UInt64, z = FP.dsub (FP.l2d pay) v22_2 := ⟨_, rfl⟩
  obtain ⟨Lv48, Tv48⟩ := oI64 (pay.toInt - Lv22_2.toInt) (by first | omega | (have oTs' := oTs; omega) | (simp only [Int32.reduceToInt, Int64.reduceToInt]; omega))
  have lv48 : v48 = FP.l2d Lv48 := oWSub rfl lv22_2 ev48 Tv48 (by first | omega | (have oTs' := oTs; omega) | (simp only [Int32.reduceToInt, Int64.reduceToInt]; omega))
  try simp only [Int32.reduceToInt, Int64.reduceToInt] at Tv48
  refine oW.dsub (pc' := 49) K d1_48 ev48 (oMNN (oML2D lv48) (by decide)) rfl ?_
  refine oW.dstore (Ls' := #[.val (.double (FP.l2d pay)), .second, .val (.ref a), .val (.ref b), .val (.double v22_2), .second, .val (.double v36_2), .second, .val (.double v48), .second, .unset, .unset, .unset, .unset]) (pc' := 51) K d1_49 rfl rfl ?_
  refine oW.aloadN (pc' := 52) K d1_51 rfl rfl rfl ?_
  refine oW.alen (i := 0) (v := (3 : Int32)) (pc' := 53) K d1_52 rfl rfl rfl ?_
  refine oW.newarr (n := 3) (cells' := 1) (slots' := 3) (dsf := fun z => [(a, .inl (.double, [(.double (FP.l2d v0)), (.double (FP.l2d v1)), (.double (FP.l2d v2))])), (b, .inl (.double, [(.double (FP.l2d u0)), (.double (FP.l2d u1)), (.double (FP.l2d u2))])), (z, .inl (.double, [(.double (0 : UInt64)), (.double (0 : UInt64)), (.double (0 : UInt64))]))]) (pc' := 55) K (hw _ (List.mem_of_getElem? (i := 0) rfl)) d1_53 rfl (by decide) (by decide) (by decide) (by decide) rfl rfl (fun _ => rfl) rfl ?_
  intro a53 ha53
  refine oW.astore (Ls' := #[.val (.double (FP.l2d pay)), .second, .val (.ref a), .val (.ref b), .val (.double v22_2), .second, .val (.double v36_2), .second, .val (.double v48), .second, .val (.ref a53), .unset, .unset, .unset]) (pc' := 57) K d1_55 rfl rfl rfl ?_
  refine oW.iconst (v := (0 : Int32)) (pc' := 58) K d1_57 (by decide) rfl ?_
  refine oW.istore (Ls' := #[.val (.double (FP.l2d pay)), .second, .val (.ref a), .val (.ref b), .val (.double v22_2), .second, .val (.double v36_2), .second, .val (.double v48), .second, .val (.ref a53), .val (.int (0 : Int32)), .unset, .unset]) (pc' := 60) K d1_58 rfl rfl ?_
  refine oW.iload (pc' := 62) K d1_60 rfl rfl ?_
  refine oW.aloadN (pc' := 63) K d1_62 rfl rfl rfl ?_
  refine oW.alen (i := 0) (v := (3 : Int32)) (pc' := 64) K d1_63 rfl rfl rfl ?_
  refine oW.icmp_ge (pc' := 118) (pc3 := 67) K d1_64 (by decide) (by decide) rfl (fun q => absurd q (by decide)) (fun _ => ?_)
  refine oW.join (F := fun z : UInt64 => z = oShare X S D0 (4613937818241073152 : UInt64) ∧ oMag 1155 z) (pcj := 98) (Lf := fun z => #[.val (.double (FP.l2d pay)), .second, .val (.ref a), .val (.ref b), .val (.double v22_2), .second, .val (.double v36_2), .second, .val (.double v48), .second, .val (.ref a53), .val (.int (0 : Int32)), .unset, .unset]) (Sf := fun z => [(.double z)]) (dsf := fun z => [(a, .inl (.double, [(.double (FP.l2d v0)), (.double (FP.l2d v1)), (.double (FP.l2d v2))])), (b, .inl (.double, [(.double (FP.l2d u0)), (.double (FP.l2d u1)), (.double (FP.l2d u2))])), (a53, .inl (.double, [(.double (0 : UInt64)), (.double (0 : UInt64)), (.double (0 : UInt64))]))]) ?_ ?_
  · intro J
    refine oW.dload (pc' := 69) K d1_67 rfl rfl ?_
    refine oW.dconst0 (pc' := 70) K d1_69 rfl ?_
    obtain ⟨v70, ev70⟩ : ∃ z : Int32, z = cmpValue (FP.dcmp v36_2 (0 : UInt64)) .l := ⟨_, rfl⟩
    refine oW.dcmp (pc' := 71) K d1_70 ev70 rfl ?_
    refine oW.if_le (pc' := 92) (pc3 := 74) K d1_71 (by decide) (by decide) rfl (fun c71 => ?_) (fun c71 => ?_)
    · rw [(oCmp (oL2D lv36_2 (by first | omega | (have oTs' := oTs; omega) | (simp only [Int32.reduceToInt, Int64.reduceToInt]; omega))) (oDK 0 (by decide +kernel) (by decide)) ev70).2.2] at c71
      refine oW.dload (pc' := 94) K d1_92 rfl rfl ?_
      refine oW.aloadN (pc' := 95) K d1_94 rfl rfl rfl ?_
      refine oW.alen (i := 0) (v := (3 : Int32)) (pc' := 96) K d1_95 rfl rfl rfl ?_
      refine oW.i2d (v := (4613937818241073152 : UInt64)) (pc' := 97) K d1_96 (by decide +kernel) rfl ?_
      obtain ⟨v97, ev97⟩ : ∃ z : UInt64, z = FP.ddiv v48 (4613937818241073152 : UInt64) := ⟨_, rfl⟩
      have mv97 : oMag 1088 v97 := oMDiv (oML2D lv48) (by unfold Big64; decide : Big64 1024 (4613937818241073152 : UInt64)) ev97 (by decide)
      refine oW.ddiv (pc' := 98) K d1_97 ev97 (oMNN mv97 (by decide)) rfl ?_
      exact J v97 (⟨by rw [oShare, if_neg (by omega)]; rw [ev97, lv48, oEq64.mpr (show Lv48.toInt = X.toInt by omega)], Jvm.Free.Fl.Mag64.mono mv97 (by decide)⟩)
    · rw [(oCmp (oL2D lv36_2 (by first | omega | (have oTs' := oTs; omega) | (simp only [Int32.reduceToInt, Int64.reduceToInt]; omega))) (oDK 0 (by decide +kernel) (by decide)) ev70).2.2] at c71
      refine oW.dload (pc' := 76) K d1_74 rfl rfl ?_
      refine oW.aloadN (pc' := 77) K d1_76 rfl rfl rfl ?_
      refine oW.iload (pc' := 79) K d1_77 rfl rfl ?_
      refine oW.daload (i := 0) (k := 0) (pc' := 80) K d1_79 rfl rfl (by decide) rfl rfl ?_
      refine oW.aloadN (pc' := 81) K d1_80 rfl rfl rfl ?_
      refine oW.iload (pc' := 83) K d1_81 rfl rfl ?_
      refine oW.daload (i := 1) (k := 0) (pc' := 84) K d1_83 rfl rfl (by decide) rfl rfl ?_
      obtain ⟨v84, ev84⟩ : ∃ z : UInt64, z = FP.dsub (FP.l2d v0) (FP.l2d u0) := ⟨_, rfl⟩
      obtain ⟨Lv84, Tv84⟩ := oI64 (v0.toInt - u0.toInt) (by first | omega | (have oTs' := oTs; omega) | (simp only [Int32.reduceToInt, Int64.reduceToInt]; omega))
      have lv84 : v84 = FP.l2d Lv84 := oWSub rfl rfl ev84 Tv84 (by first | omega | (have oTs' := oTs; omega) | (simp only [Int32.reduceToInt, Int64.reduceToInt]; omega))
      try simp only [Int32.reduceToInt, Int64.reduceToInt] at Tv84
      refine oW.dsub (pc' := 85) K d1_84 ev84 (oMNN (oML2D lv84) (by decide)) rfl ?_
      obtain ⟨v85, ev85⟩ : ∃ z : UInt64, z = FP.dmul v48 v84 := ⟨_, rfl⟩
      have mv85 : oMag 1154 v85 := oMMul (oML2D lv48) (oML2D lv84) ev85 (by decide)
      refine oW.dmul (pc' := 86) K d1_85 ev85 (oMNN mv85 (by decide)) rfl ?_
      refine oW.dload (pc' := 88) K d1_86 rfl rfl ?_
      obtain ⟨v88, ev88⟩ : ∃ z : UInt64, z = FP.ddiv v85 v36_2 := ⟨_, rfl⟩
      have mv88 : oMag 1155 v88 := oMDiv mv85 (oBigL lv36_2 (by first | omega | (have oTs' := oTs; omega) | (simp only [Int32.reduceToInt, Int64.reduceToInt]; omega))) ev88 (by decide)
      refine oW.ddiv (pc' := 89) K d1_88 ev88 (oMNN mv88 (by decide)) rfl ?_
      refine oW.goto (pc' := 98) K d1_89 (by decide) (by decide) ?_
      exact J v88 (⟨by rw [oShare, if_pos (by omega)]; rw [ev88, ev85, lv48, lv84, lv36_2, oEq64.mpr (show Lv48.toInt = X.toInt by omega), oEq64.mpr (show Lv84.toInt = D0.toInt by omega), oEq64.mpr (show Lv36_2.toInt = S.toInt by omega)], mv88⟩)
  intro sh hsh
  obtain ⟨gsh, msh⟩ := hsh
  refine oW.dstore (Ls' := #[.val (.double (FP.l2d pay)), .second, .val (.ref a), .val (.ref b), .val (.double v22_2), .second, .val (.double v36_2), .second, .val (.double v48), .second, .val (.ref a53), .val (.int (0 : Int32)), .val (.double sh), .second]) (pc' := 100) K d1_98 rfl rfl ?_
  refine oW.aload (pc' := 102) K d1_100 rfl rfl rfl ?_
  refine oW.iload (pc' := 104) K d1_102 rfl rfl ?_
  refine oW.aloadN (pc' := 105) K d1_104 rfl rfl rfl ?_
  refine oW.iload (pc' := 107) K d1_105 rfl rfl ?_
  refine oW.daload (i := 1) (k := 0) (pc' := 108) K d1_107 rfl rfl (by decide) rfl rfl ?_
  refine oW.dload (pc' := 110) K d1_108 rfl rfl ?_
  obtain ⟨v110, ev110⟩ : ∃ z : UInt64, z = FP.dadd (FP.l2d u0) sh := ⟨_, rfl⟩
  have mv110 : oMag 1157 v110 := oMAdd (A := 1155) (Jvm.Free.Fl.Mag64.mono (oML2D rfl) (by decide)) msh ev110 (by decide)
  refine oW.dadd (pc' := 111) K d1_110 ev110 (oMNN mv110 (by decide)) rfl ?_
  refine oW.dastore (i := 2) (k := 0) (ds' := [(a, .inl (.double, [(.double (FP.l2d v0)), (.double (FP.l2d v1)), (.double (FP.l2d v2))])), (b, .inl (.double, [(.double (FP.l2d u0)), (.double (FP.l2d u1)), (.double (FP.l2d u2))])), (a53, .inl (.double, [(.double v110), (.double (0 : UInt64)), (.double (0 : UInt64))]))]) (pc' := 112) K d1_111 rfl rfl (by decide) (Nat.lt_of_sub_eq_succ rfl) rfl rfl ?_
  refine oW.iinc (v := (1 : Int32)) (Ls' := #[.val (.double (FP.l2d pay)), .second, .val (.ref a), .val (.ref b), .val (.double v22_2), .second, .val (.double v36_2), .second, .val (.double v48), .second, .val (.ref a53), .val (.int (1 : Int32)), .val (.double sh), .second]) (pc' := 115) K d1_112 rfl (by decide) rfl rfl ?_
  refine oW.goto (pc' := 60) K d1_115 (by decide) (by decide) ?_
  refine oW.iload (pc' := 62) K d1_60 rfl rfl ?_
  refine oW.aloadN (pc' := 63) K d1_62 rfl rfl rfl ?_
  refine oW.alen (i := 0) (v := (3 : Int32)) (pc' := 64) K d1_63 rfl rfl rfl ?_
  refine oW.icmp_ge (pc' := 118) (pc3 := 67) K d1_64 (by decide) (by decide) rfl (fun q => absurd q (by decide)) (fun _ => ?_)
  refine oW.join (F := fun z : UInt64 => z = oShare X S D1 (4613937818241073152 : UInt64) ∧ oMag 1155 z) (pcj := 98) (Lf := fun z => #[.val (.double (FP.l2d pay)), .second, .val (.ref a), .val (.ref b), .val (.double v22_2), .second, .val (.double v36_2), .second, .val (.double v48), .second, .val (.ref a53), .val (.int (1 : Int32)), .val (.double sh), .second]) (Sf := fun z => [(.double z)]) (dsf := fun z => [(a, .inl (.double, [(.double (FP.l2d v0)), (.double (FP.l2d v1)), (.double (FP.l2d v2))])), (b, .inl (.double, [(.double (FP.l2d u0)), (.double (FP.l2d u1)), (.double (FP.l2d u2))])), (a53, .inl (.double, [(.double v110), (.double (0 : UInt64)), (.double (0 : UInt64))]))]) ?_ ?_
  · intro J
    refine oW.dload (pc' := 69) K d1_67 rfl rfl ?_
    refine oW.dconst0 (pc' := 70) K d1_69 rfl ?_
    obtain ⟨v70, ev70⟩ : ∃ z : Int32, z = cmpValue (FP.dcmp v36_2 (0 : UInt64)) .l := ⟨_, rfl⟩
    refine oW.dcmp (pc' := 71) K d1_70 ev70 rfl ?_
    refine oW.if_le (pc' := 92) (pc3 := 74) K d1_71 (by decide) (by decide) rfl (fun c71 => ?_) (fun c71 => ?_)
    · rw [(oCmp (oL2D lv36_2 (by first | omega | (have oTs' := oTs; omega) | (simp only [Int32.reduceToInt, Int64.reduceToInt]; omega))) (oDK 0 (by decide +kernel) (by decide)) ev70).2.2] at c71
      refine oW.dload (pc' := 94) K d1_92 rfl rfl ?_
      refine oW.aloadN (pc' := 95) K d1_94 rfl rfl rfl ?_
      refine oW.alen (i := 0) (v := (3 : Int32)) (pc' := 96) K d1_95 rfl rfl rfl ?_
      refine oW.i2d (v := (4613937818241073152 : UInt64)) (pc' := 97) K d1_96 (by decide +kernel) rfl ?_
      obtain ⟨v97, ev97⟩ : ∃ z : UInt64, z = FP.ddiv v48 (4613937818241073152 : UInt64) := ⟨_, rfl⟩
      have mv97 : oMag 1088 v97 := oMDiv (oML2D lv48) (by unfold Big64; decide : Big64 1024 (4613937818241073152 : UInt64)) ev97 (by decide)
      refine oW.ddiv (pc' := 98) K d1_97 ev97 (oMNN mv97 (by decide)) rfl ?_
      exact J v97 (⟨by rw [oShare, if_neg (by omega)]; rw [ev97, lv48, oEq64.mpr (show Lv48.toInt = X.toInt by omega)], Jvm.Free.Fl.Mag64.mono mv97 (by decide)⟩)
    · rw [(oCmp (oL2D lv36_2 (by first | omega | (have oTs' := oTs; omega) | (simp only [Int32.reduceToInt, Int64.reduceToInt]; omega))) (oDK 0 (by decide +kernel) (by decide)) ev70).2.2] at c71
      refine oW.dload (pc' := 76) K d1_74 rfl rfl ?_
      refine oW.aloadN (pc' := 77) K d1_76 rfl rfl rfl ?_
      refine oW.iload (pc' := 79) K d1_77 rfl rfl ?_
      refine oW.daload (i := 0) (k := 1) (pc' := 80) K d1_79 rfl rfl (by decide) rfl rfl ?_
      refine oW.aloadN (pc' := 81) K d1_80 rfl rfl rfl ?_
      refine oW.iload (pc' := 83) K d1_81 rfl rfl ?_
      refine oW.daload (i := 1) (k := 1) (pc' := 84) K d1_83 rfl rfl (by decide) rfl rfl ?_
      obtain ⟨v84, ev84⟩ : ∃ z : UInt64, z = FP.dsub (FP.l2d v1) (FP.l2d u1) := ⟨_, rfl⟩
      obtain ⟨Lv84, Tv84⟩ := oI64 (v1.toInt - u1.toInt) (by first | omega | (have oTs' := oTs; omega) | (simp only [Int32.reduceToInt, Int64.reduceToInt]; omega))
      have lv84 : v84 = FP.l2d Lv84 := oWSub rfl rfl ev84 Tv84 (by first | omega | (have oTs' := oTs; omega) | (simp only [Int32.reduceToInt, Int64.reduceToInt]; omega))
      try simp only [Int32.reduceToInt, Int64.reduceToInt] at Tv84
      refine oW.dsub (pc' := 85) K d1_84 ev84 (oMNN (oML2D lv84) (by decide)) rfl ?_
      obtain ⟨v85, ev85⟩ : ∃ z : UInt64, z = FP.dmul v48 v84 := ⟨_, rfl⟩
      have mv85 : oMag 1154 v85 := oMMul (oML2D lv48) (oML2D lv84) ev85 (by decide)
      refine oW.dmul (pc' := 86) K d1_85 ev85 (oMNN mv85 (by decide)) rfl ?_
      refine oW.dload (pc' := 88) K d1_86 rfl rfl ?_
      obtain ⟨v88, ev88⟩ : ∃ z : UInt64, z = FP.ddiv v85 v36_2 := ⟨_, rfl⟩
      have mv88 : oMag 1155 v88 := oMDiv mv85 (oBigL lv36_2 (by first | omega | (have oTs' := oTs; omega) | (simp only [Int32.reduceToInt, Int64.reduceToInt]; omega))) ev88 (by decide)
      refine oW.ddiv (pc' := 89) K d1_88 ev88 (oMNN mv88 (by decide)) rfl ?_
      refine oW.goto (pc' := 98) K d1_89 (by decide) (by decide) ?_
      exact J v88 (⟨by rw [oShare, if_pos (by omega)]; rw [ev88, ev85, lv48, lv84, lv36_2, oEq64.mpr (show Lv48.toInt = X.toInt by omega), oEq64.mpr (show Lv84.toInt = D1.toInt by omega), oEq64.mpr (show Lv36_2.toInt = S.toInt by omega)], mv88⟩)
  intro sh_1 hsh_1
  obtain ⟨gsh_1, msh_1⟩ := hsh_1
  refine oW.dstore (Ls' := #[.val (.double (FP.l2d pay)), .second, .val (.ref a), .val (.ref b), .val (.double v22_2), .second, .val (.double v36_2), .second, .val (.double v48), .second, .val (.ref a53), .val (.int (1 : Int32)), .val (.double sh_1), .second]) (pc' := 100) K d1_98 rfl rfl ?_
  refine oW.aload (pc' := 102) K d1_100 rfl rfl rfl ?_
  refine oW.iload (pc' := 104) K d1_102 rfl rfl ?_
  refine oW.aloadN (pc' := 105) K d1_104 rfl rfl rfl ?_
  refine oW.iload (pc' := 107) K d1_105 rfl rfl ?_
  refine oW.daload (i := 1) (k := 1) (pc' := 108) K d1_107 rfl rfl (by decide) rfl rfl ?_
  refine oW.dload (pc' := 110) K d1_108 rfl rfl ?_
  obtain ⟨v110_1, ev110_1⟩ : ∃ z : UInt64, z = FP.dadd (FP.l2d u1) sh_1 := ⟨_, rfl⟩
  have mv110_1 : oMag 1157 v110_1 := oMAdd (A := 1155) (Jvm.Free.Fl.Mag64.mono (oML2D rfl) (by decide)) msh_1 ev110_1 (by decide)
  refine oW.dadd (pc' := 111) K d1_110 ev110_1 (oMNN mv110_1 (by decide)) rfl ?_
  refine oW.dastore (i := 2) (k := 1) (ds' := [(a, .inl (.double, [(.double (FP.l2d v0)), (.double (FP.l2d v1)), (.double (FP.l2d v2))])), (b, .inl (.double, [(.double (FP.l2d u0)), (.double (FP.l2d u1)), (.double (FP.l2d u2))])), (a53, .inl (.double, [(.double v110), (.double v110_1), (.double (0 : UInt64))]))]) (pc' := 112) K d1_111 rfl rfl (by decide) (Nat.lt_of_sub_eq_succ rfl) rfl rfl ?_
  refine oW.iinc (v := (2 : Int32)) (Ls' := #[.val (.double (FP.l2d pay)), .second, .val (.ref a), .val (.ref b), .val (.double v22_2), .second, .val (.double v36_2), .second, .val (.double v48), .second, .val (.ref a53), .val (.int (2 : Int32)), .val (.double sh_1), .second]) (pc' := 115) K d1_112 rfl (by decide) rfl rfl ?_
  refine oW.goto (pc' := 60) K d1_115 (by decide) (by decide) ?_
  refine oW.iload (pc' := 62) K d1_60 rfl rfl ?_
  refine oW.aloadN (pc' := 63) K d1_62 rfl rfl rfl ?_
  refine oW.alen (i := 0) (v := (3 : Int32)) (pc' := 64) K d1_63 rfl rfl rfl ?_
  refine oW.icmp_ge (pc' := 118) (pc3 := 67) K d1_64 (by decide) (by decide) rfl (fun q => absurd q (by decide)) (fun _ => ?_)
  refine oW.join (F := fun z : UInt64 => z = oShare X S D2 (4613937818241073152 : UInt64) ∧ oMag 1155 z) (pcj := 98) (Lf := fun z => #[.val (.double (FP.l2d pay)), .second, .val (.ref a), .val (.ref b), .val (.double v22_2), .second, .val (.double v36_2), .second, .val (.double v48), .second, .val (.ref a53), .val (.int (2 : Int32)), .val (.double sh_1), .second]) (Sf := fun z => [(.double z)]) (dsf := fun z => [(a, .inl (.double, [(.double (FP.l2d v0)), (.double (FP.l2d v1)), (.double (FP.l2d v2))])), (b, .inl (.double, [(.double (FP.l2d u0)), (.double (FP.l2d u1)), (.double (FP.l2d u2))])), (a53, .inl (.double, [(.double v110), (.double v110_1), (.double (0 : UInt64))]))]) ?_ ?_
  · intro J
    refine oW.dload (pc' := 69) K d1_67 rfl rfl ?_
    refine oW.dconst0 (pc' := 70) K d1_69 rfl ?_
    obtain ⟨v70, ev70⟩ : ∃ z : Int32, z = cmpValue (FP.dcmp v36_2 (0 : UInt64)) .l := ⟨_, rfl⟩
    refine oW.dcmp (pc' := 71) K d1_70 ev70 rfl ?_
    refine oW.if_le (pc' := 92) (pc3 := 74) K d1_71 (by decide) (by decide) rfl (fun c71 => ?_) (fun c71 => ?_)
    · rw [(oCmp (oL2D lv36_2 (by first | omega | (have oTs' := oTs; omega) | (simp only [Int32.reduceToInt, Int64.reduceToInt]; omega))) (oDK 0 (by decide +kernel) (by decide)) ev70).2.2] at c71
      refine oW.dload (pc' := 94) K d1_92 rfl rfl ?_
      refine oW.aloadN (pc' := 95) K d1_94 rfl rfl rfl ?_
      refine oW.alen (i := 0) (v := (3 : Int32)) (pc' := 96) K d1_95 rfl rfl rfl ?_
      refine oW.i2d (v := (4613937818241073152 : UInt64)) (pc' := 97) K d1_96 (by decide +kernel) rfl ?_
      obtain ⟨v97, ev97⟩ : ∃ z : UInt64, z = FP.ddiv v48 (4613937818241073152 : UInt64) := ⟨_, rfl⟩
      have mv97 : oMag 1088 v97 := oMDiv (oML2D lv48) (by unfold Big64; decide : Big64 1024 (4613937818241073152 : UInt64)) ev97 (by decide)
      refine oW.ddiv (pc' := 98) K d1_97 ev97 (oMNN mv97 (by decide)) rfl ?_
      exact J v97 (⟨by rw [oShare, if_neg (by omega)]; rw [ev97, lv48, oEq64.mpr (show Lv48.toInt = X.toInt by omega)], Jvm.Free.Fl.Mag64.mono mv97 (by decide)⟩)
    · rw [(oCmp (oL2D lv36_2 (by first | omega | (have oTs' := oTs; omega) | (simp only [Int32.reduceToInt, Int64.reduceToInt]; omega))) (oDK 0 (by decide +kernel) (by decide)) ev70).2.2] at c71
      refine oW.dload (pc' := 76) K d1_74 rfl rfl ?_
      refine oW.aloadN (pc' := 77) K d1_76 rfl rfl rfl ?_
      refine oW.iload (pc' := 79) K d1_77 rfl rfl ?_
      refine oW.daload (i := 0) (k := 2) (pc' := 80) K d1_79 rfl rfl (by decide) rfl rfl ?_
      refine oW.aloadN (pc' := 81) K d1_80 rfl rfl rfl ?_
      refine oW.iload (pc' := 83) K d1_81 rfl rfl ?_
      refine oW.daload (i := 1) (k := 2) (pc' := 84) K d1_83 rfl rfl (by decide) rfl rfl ?_
      obtain ⟨v84, ev84⟩ : ∃ z : UInt64, z = FP.dsub (FP.l2d v2) (FP.l2d u2) := ⟨_, rfl⟩
      obtain ⟨Lv84, Tv84⟩ := oI64 (v2.toInt - u2.toInt) (by first | omega | (have oTs' := oTs; omega) | (simp only [Int32.reduceToInt, Int64.reduceToInt]; omega))
      have lv84 : v84 = FP.l2d Lv84 := oWSub rfl rfl ev84 Tv84 (by first | omega | (have oTs' := oTs; omega) | (simp only [Int32.reduceToInt, Int64.reduceToInt]; omega))
      try simp only [Int32.reduceToInt, Int64.reduceToInt] at Tv84
      refine oW.dsub (pc' := 85) K d1_84 ev84 (oMNN (oML2D lv84) (by decide)) rfl ?_
      obtain ⟨v85, ev85⟩ : ∃ z : UInt64, z = FP.dmul v48 v84 := ⟨_, rfl⟩
      have mv85 : oMag 1154 v85 := oMMul (oML2D lv48) (oML2D lv84) ev85 (by decide)
      refine oW.dmul (pc' := 86) K d1_85 ev85 (oMNN mv85 (by decide)) rfl ?_
      refine oW.dload (pc' := 88) K d1_86 rfl rfl ?_
      obtain ⟨v88, ev88⟩ : ∃ z : UInt64, z = FP.ddiv v85 v36_2 := ⟨_, rfl⟩
      have mv88 : oMag 1155 v88 := oMDiv mv85 (oBigL lv36_2 (by first | omega | (have oTs' := oTs; omega) | (simp only [Int32.reduceToInt, Int64.reduceToInt]; omega))) ev88 (by decide)
      refine oW.ddiv (pc' := 89) K d1_88 ev88 (oMNN mv88 (by decide)) rfl ?_
      refine oW.goto (pc' := 98) K d1_89 (by decide) (by decide) ?_
      exact J v88 (⟨by rw [oShare, if_pos (by omega)]; rw [ev88, ev85, lv48, lv84, lv36_2, oEq64.mpr (show Lv48.toInt = X.toInt by omega), oEq64.mpr (show Lv84.toInt = D2.toInt by omega), oEq64.mpr (show Lv36_2.toInt = S.toInt by omega)], mv88⟩)
  intro sh_2 hsh_2
  obtain ⟨gsh_2, msh_2⟩ := hsh_2
  refine oW.dstore (Ls' := #[.val (.double (FP.l2d pay)), .second, .val (.ref a), .val (.ref b), .val (.double v22_2), .second, .val (.double v36_2), .second, .val (.double v48), .second, .val (.ref a53), .val (.int (2 : Int32)), .val (.double sh_2), .second]) (pc' := 100) K d1_98 rfl rfl ?_
  refine oW.aload (pc' := 102) K d1_100 rfl rfl rfl ?_
  refine oW.iload (pc' := 104) K d1_102 rfl rfl ?_
  refine oW.aloadN (pc' := 105) K d1_104 rfl rfl rfl ?_
  refine oW.iload (pc' := 107) K d1_105 rfl rfl ?_
  refine oW.daload (i := 1) (k := 2) (pc' := 108) K d1_107 rfl rfl (by decide) rfl rfl ?_
  refine oW.dload (pc' := 110) K d1_108 rfl rfl ?_
  obtain ⟨v110_2, ev110_2⟩ : ∃ z : UInt64, z = FP.dadd (FP.l2d u2) sh_2 := ⟨_, rfl⟩
  have mv110_2 : oMag 1157 v110_2 := oMAdd (A := 1155) (Jvm.Free.Fl.Mag64.mono (oML2D rfl) (by decide)) msh_2 ev110_2 (by decide)
  refine oW.dadd (pc' := 111) K d1_110 ev110_2 (oMNN mv110_2 (by decide)) rfl ?_
  refine oW.dastore (i := 2) (k := 2) (ds' := [(a, .inl (.double, [(.double (FP.l2d v0)), (.double (FP.l2d v1)), (.double (FP.l2d v2))])), (b, .inl (.double, [(.double (FP.l2d u0)), (.double (FP.l2d u1)), (.double (FP.l2d u2))])), (a53, .inl (.double, [(.double v110), (.double v110_1), (.double v110_2)]))]) (pc' := 112) K d1_111 rfl rfl (by decide) (Nat.lt_of_sub_eq_succ rfl) rfl rfl ?_
  refine oW.iinc (v := (3 : Int32)) (Ls' := #[.val (.double (FP.l2d pay)), .second, .val (.ref a), .val (.ref b), .val (.double v22_2), .second, .val (.double v36_2), .second, .val (.double v48), .second, .val (.ref a53), .val (.int (3 : Int32)), .val (.double sh_2), .second]) (pc' := 115) K d1_112 rfl (by decide) rfl rfl ?_
  refine oW.goto (pc' := 60) K d1_115 (by decide) (by decide) ?_
  refine oW.iload (pc' := 62) K d1_60 rfl rfl ?_
  refine oW.aloadN (pc' := 63) K d1_62 rfl rfl rfl ?_
  refine oW.alen (i := 0) (v := (3 : Int32)) (pc' := 64) K d1_63 rfl rfl rfl ?_
  refine oW.icmp_ge (pc' := 118) (pc3 := 67) K d1_64 (by decide) (by decide) rfl (fun _ => ?_) (fun q => absurd q (by decide))
  refine oW.aload (pc' := 120) K d1_118 rfl rfl rfl ?_
  exact oW.retA K rfl rfl rfl d1_120 (by decide) (by decide) ⟨_, rfl, _, _, _, _, rfl, ev110.trans (by rw [gsh]), oMNN mv110 (by decide), ev110_1.trans (by rw [gsh_1]), oMNN mv110_1 (by decide), ev110_2.trans (by rw [gsh_2]), oMNN mv110_2 (by decide), rfl⟩
theorem d2_0 : decode method_3_code 0 = .ok (.lload_n 2, 1) := by decide +kernel
theorem d2_1 : decode method_3_code 1 = .ok (.lconst 0, 1) := by decide +kernel
theorem d2_2 : decode method_3_code 2 = .ok (.lcmp, 1) := by decide +kernel
theorem d2_3 : decode method_3_code 3 = .ok (.ifCond .le 16, 3) := by decide +kernel
theorem d2_6 : decode method_3_code 6 = .ok (.dload_n 0, 1) := by decide +kernel
theorem d2_7 : decode method_3_code 7 = .ok (.lload 7, 2) := by decide +kernel
theorem d2_9 : decode method_3_code 9 = .ok (.l2d, 1) := by decide +kernel
theorem d2_10 : decode method_3_code 10 = .ok (.dmul, 1) := by decide +kernel
theorem d2_11 : decode method_3_code 11 = .ok (.lload_n 2, 1) := by decide +kernel
theorem d2_12 : decode method_3_code 12 = .ok (.l2d, 1) := by decide +kernel
theorem d2_13 : decode method_3_code 13 = .ok (.ddiv, 1) := by decide +kernel
theorem d2_14 : decode method_3_code 14 = .ok (.dstore 9, 2) := by decide +kernel
theorem d2_16 : decode method_3_code 16 = .ok (.goto 10, 3) := by decide +kernel
theorem d2_19 : decode method_3_code 19 = .ok (.dload_n 0, 1) := by decide +kernel
theorem d2_20 : decode method_3_code 20 = .ok (.iload 4, 2) := by decide +kernel
theorem d2_22 : decode method_3_code 22 = .ok (.i2d, 1) := by decide +kernel
theorem d2_23 : decode method_3_code 23 = .ok (.ddiv, 1) := by decide +kernel
theorem d2_24 : decode method_3_code 24 = .ok (.dstore 9, 2) := by decide +kernel
theorem d2_26 : decode method_3_code 26 = .ok (.lload 5, 2) := by decide +kernel
theorem d2_28 : decode method_3_code 28 = .ok (.l2d, 1) := by decide +kernel
theorem d2_29 : decode method_3_code 29 = .ok (.dload 9, 2) := by decide +kernel
theorem d2_31 : decode method_3_code 31 = .ok (.dadd, 1) := by decide +kernel
theorem d2_32 : decode method_3_code 32 = .ok (.dreturn, 1) := by decide +kernel
set_option maxRecDepth 65536 in
set_option maxHeartbeats 40000000 in
theorem own_ex1 {l : Launch} {Z : State} {a0 : Array Value} {h0 : Heap} (hw : ∀ d ∈ tables_1, d.before a0 Z = true) (X S h D : Int64) (ds : oDs) :
    oCtr l Z h0 [] (⟨"com/example/lotwise/lotwise/auction/PauseAuctionSpreadPinLaw", "expected", "(DJIJJ)D"⟩ : MethodName) method_3_code 11 (some .double) ({ frames := 0, cells := 0, slots := 0, locals := 0 } : Room) #[(.double (FP.l2d X)), (.long S), (.int (1 : Int32)), (.long h), (.long D)] ds (oVal fun w dd => ∃ y : UInt64, w = .double y ∧ y = FP.dadd (FP.l2d h) (oShare X S D (4607182418800017408 : UInt64)) ∧ dd = ds) := by
  refine oCtr.of (Ls := #[.val (.double (FP.l2d X)), .second, .val (.long S), .second, .val (.int (1 : Int32)), .val (.long h), .second, .val (.long D), .second, .unset, .unset]) (plainFor_of_name (by first | (simp [plainName, overriddenIn]; done) | decide +kernel)) (fun m => by first | (simp [entryFrame, mkF, argsToLocals, Value.category]; done) | rfl) ?_
  intro p e s m below meth c K
  refine oW.lloadN (pc' := 1) K d2_0 rfl rfl ?_
  refine oW.lconst (v := (0 : Int64)) (pc' := 2) K d2_1 (by decide) rfl ?_
  obtain ⟨v2, ev2⟩ : ∃ z : Int32, z = XT.cmpL S (0 : Int64) := ⟨_, rfl⟩
  refine oW.lcmp (pc' := 3) K d2_2 ev2 rfl ?_
  refine oW.if_le (pc' := 19) (pc3 := 6) K d2_3 (by decide) (by decide) rfl (fun c3 => ?_) (fun c3 => ?_)
  · rw [(oLcmp ev2).2.2] at c3
    refine oW.dloadN (pc' := 20) K d2_19 rfl rfl ?_
    refine oW.iload (pc' := 22) K d2_20 rfl rfl ?_
    refine oW.i2d (v := (4607182418800017408 : UInt64)) (pc' := 23) K d2_22 (by decide +kernel) rfl ?_
    obtain ⟨v23, ev23⟩ : ∃ z : UInt64, z = FP.ddiv (FP.l2d X) (4607182418800017408 : UInt64) := ⟨_, rfl⟩
    have mv23 : oMag 1089 v23 := oMDiv (oML2D rfl) (by unfold Big64; decide : Big64 1023 (4607182418800017408 : UInt64)) ev23 (by decide)
    refine oW.ddiv (pc' := 24) K d2_23 ev23 (oMNN mv23 (by decide)) rfl ?_
    refine oW.dstore (Ls' := #[.val (.double (FP.l2d X)), .second, .val (.long S), .second, .val (.int (1 : Int32)), .val (.long h), .second, .val (.long D), .second, .val (.double v23), .second]) (pc' := 26) K d2_24 rfl rfl ?_
    refine oW.lload (pc' := 28) K d2_26 rfl rfl ?_
    obtain ⟨v28, ev28⟩ : ∃ z : UInt64, z = FP.l2d h := ⟨_, rfl⟩
    refine oW.l2d (pc' := 29) K d2_28 ev28 rfl ?_
    refine oW.dload (pc' := 31) K d2_29 rfl rfl ?_
    obtain ⟨v31, ev31⟩ : ∃ z : UInt64, z = FP.dadd v28 v23 := ⟨_, rfl⟩
    have mv31 : oMag 1091 v31 := oMAdd (A := 1089) (Jvm.Free.Fl.Mag64.mono (oML2D ev28) (by decide)) mv23 ev31 (by decide)
    refine oW.dadd (pc' := 32) K d2_31 ev31 (oMNN mv31 (by decide)) rfl ?_
    exact oW.retD K rfl d2_32 (by decide) (by decide) ⟨_, rfl, _, rfl, by rw [ev31, ev28, ev23, oShare, if_neg (by first | omega | (have oTs' := oTs; omega) | (simp only [Int32.reduceToInt, Int64.reduceToInt]; omega))], rfl⟩
  · rw [(oLcmp ev2).2.2] at c3
    refine oW.dloadN (pc' := 7) K d2_6 rfl rfl ?_
    refine oW.lload (pc' := 9) K d2_7 rfl rfl ?_
    obtain ⟨v9, ev9⟩ : ∃ z : UInt64, z = FP.l2d D := ⟨_, rfl⟩
    refine oW.l2d (pc' := 10) K d2_9 ev9 rfl ?_
    obtain ⟨v10, ev10⟩ : ∃ z : UInt64, z = FP.dmul (FP.l2d X) v9 := ⟨_, rfl⟩
    have mv10 : oMag 1154 v10 := oMMul (oML2D rfl) (oML2D ev9) ev10 (by decide)
    refine oW.dmul (pc' := 11) K d2_10 ev10 (oMNN mv10 (by decide)) rfl ?_
    refine oW.lloadN (pc' := 12) K d2_11 rfl rfl ?_
    obtain ⟨v12, ev12⟩ : ∃ z : UInt64, z = FP.l2d S := ⟨_, rfl⟩
    refine oW.l2d (pc' := 13) K d2_12 ev12 rfl ?_
    obtain ⟨v13, ev13⟩ : ∃ z : UInt64, z = FP.ddiv v10 v12 := ⟨_, rfl⟩
    have mv13 : oMag 1155 v13 := oMDiv mv10 (oBigL ev12 (by first | omega | (have oTs' := oTs; omega) | (simp only [Int32.reduceToInt, Int64.reduceToInt]; omega))) ev13 (by decide)
    refine oW.ddiv (pc' := 14) K d2_13 ev13 (oMNN mv13 (by decide)) rfl ?_
    refine oW.dstore (Ls' := #[.val (.double (FP.l2d X)), .second, .val (.long S), .second, .val (.int (1 : Int32)), .val (.long h), .second, .val (.long D), .second, .val (.double v13), .second]) (pc' := 16) K d2_14 rfl rfl ?_
    refine oW.goto (pc' := 26) K d2_16 (by decide) (by decide) ?_
    refine oW.lload (pc' := 28) K d2_26 rfl rfl ?_
    obtain ⟨v28, ev28⟩ : ∃ z : UInt64, z = FP.l2d h := ⟨_, rfl⟩
    refine oW.l2d (pc' := 29) K d2_28 ev28 rfl ?_
    refine oW.dload (pc' := 31) K d2_29 rfl rfl ?_
    obtain ⟨v31, ev31⟩ : ∃ z : UInt64, z = FP.dadd v28 v13 := ⟨_, rfl⟩
    have mv31 : oMag 1157 v31 := oMAdd (A := 1155) (Jvm.Free.Fl.Mag64.mono (oML2D ev28) (by decide)) mv13 ev31 (by decide)
    refine oW.dadd (pc' := 32) K d2_31 ev31 (oMNN mv31 (by decide)) rfl ?_
    exact oW.retD K rfl d2_32 (by decide) (by decide) ⟨_, rfl, _, rfl, by rw [ev31, ev28, ev13, ev10, ev9, ev12, oShare, if_pos (by first | omega | (have oTs' := oTs; omega) | (simp only [Int32.reduceToInt, Int64.reduceToInt]; omega))], rfl⟩
set_option maxRecDepth 65536 in
set_option maxHeartbeats 40000000 in
theorem own_ex2 {l : Launch} {Z : State} {a0 : Array Value} {h0 : Heap} (hw : ∀ d ∈ tables_1, d.before a0 Z = true) (X S h D : Int64) (ds : oDs) :
    oCtr l Z h0 [] (⟨"com/example/lotwise/lotwise/auction/PauseAuctionSpreadPinLaw", "expected", "(DJIJJ)D"⟩ : MethodName) method_3_code 11 (some .double) ({ frames := 0, cells := 0, slots := 0, locals := 0 } : Room) #[(.double (FP.l2d X)), (.long S), (.int (2 : Int32)), (.long h), (.long D)] ds (oVal fun w dd => ∃ y : UInt64, w = .double y ∧ y = FP.dadd (FP.l2d h) (oShare X S D (4611686018427387904 : UInt64)) ∧ dd = ds) := by
  refine oCtr.of (Ls := #[.val (.double (FP.l2d X)), .second, .val (.long S), .second, .val (.int (2 : Int32)), .val (.long h), .second, .val (.long D), .second, .unset, .unset]) (plainFor_of_name (by first | (simp [plainName, overriddenIn]; done) | decide +kernel)) (fun m => by first | (simp [entryFrame, mkF, argsToLocals, Value.category]; done) | rfl) ?_
  intro p e s m below meth c K
  refine oW.lloadN (pc' := 1) K d2_0 rfl rfl ?_
  refine oW.lconst (v := (0 : Int64)) (pc' := 2) K d2_1 (by decide) rfl ?_
  obtain ⟨v2, ev2⟩ : ∃ z : Int32, z = XT.cmpL S (0 : Int64) := ⟨_, rfl⟩
  refine oW.lcmp (pc' := 3) K d2_2 ev2 rfl ?_
  refine oW.if_le (pc' := 19) (pc3 := 6) K d2_3 (by decide) (by decide) rfl (fun c3 => ?_) (fun c3 => ?_)
  · rw [(oLcmp ev2).2.2] at c3
    refine oW.dloadN (pc' := 20) K d2_19 rfl rfl ?_
    refine oW.iload (pc' := 22) K d2_20 rfl rfl ?_
    refine oW.i2d (v := (4611686018427387904 : UInt64)) (pc' := 23) K d2_22 (by decide +kernel) rfl ?_
    obtain ⟨v23, ev23⟩ : ∃ z : UInt64, z = FP.ddiv (FP.l2d X) (4611686018427387904 : UInt64) := ⟨_, rfl⟩
    have mv23 : oMag 1088 v23 := oMDiv (oML2D rfl) (by unfold Big64; decide : Big64 1024 (4611686018427387904 : UInt64)) ev23 (by decide)
    refine oW.ddiv (pc' := 24) K d2_23 ev23 (oMNN mv23 (by decide)) rfl ?_
    refine oW.dstore (Ls' := #[.val (.double (FP.l2d X)), .second, .val (.long S), .second, .val (.int (2 : Int32)), .val (.long h), .second, .val (.long D), .second, .val (.double v23), .second]) (pc' := 26) K d2_24 rfl rfl ?_
    refine oW.lload (pc' := 28) K d2_26 rfl rfl ?_
    obtain ⟨v28, ev28⟩ : ∃ z : UInt64, z = FP.l2d h := ⟨_, rfl⟩
    refine oW.l2d (pc' := 29) K d2_28 ev28 rfl ?_
    refine oW.dload (pc' := 31) K d2_29 rfl rfl ?_
    obtain ⟨v31, ev31⟩ : ∃ z : UInt64, z = FP.dadd v28 v23 := ⟨_, rfl⟩
    have mv31 : oMag 1090 v31 := oMAdd (A := 1088) (oML2D ev28) mv23 ev31 (by decide)
    refine oW.dadd (pc' := 32) K d2_31 ev31 (oMNN mv31 (by decide)) rfl ?_
    exact oW.retD K rfl d2_32 (by decide) (by decide) ⟨_, rfl, _, rfl, by rw [ev31, ev28, ev23, oShare, if_neg (by first | omega | (have oTs' := oTs; omega) | (simp only [Int32.reduceToInt, Int64.reduceToInt]; omega))], rfl⟩
  · rw [(oLcmp ev2).2.2] at c3
    refine oW.dloadN (pc' := 7) K d2_6 rfl rfl ?_
    refine oW.lload (pc' := 9) K d2_7 rfl rfl ?_
    obtain ⟨v9, ev9⟩ : ∃ z : UInt64, z = FP.l2d D := ⟨_, rfl⟩
    refine oW.l2d (pc' := 10) K d2_9 ev9 rfl ?_
    obtain ⟨v10, ev10⟩ : ∃ z : UInt64, z = FP.dmul (FP.l2d X) v9 := ⟨_, rfl⟩
    have mv10 : oMag 1154 v10 := oMMul (oML2D rfl) (oML2D ev9) ev10 (by decide)
    refine oW.dmul (pc' := 11) K d2_10 ev10 (oMNN mv10 (by decide)) rfl ?_
    refine oW.lloadN (pc' := 12) K d2_11 rfl rfl ?_
    obtain ⟨v12, ev12⟩ : ∃ z : UInt64, z = FP.l2d S := ⟨_, rfl⟩
    refine oW.l2d (pc' := 13) K d2_12 ev12 rfl ?_
    obtain ⟨v13, ev13⟩ : ∃ z : UInt64, z = FP.ddiv v10 v12 := ⟨_, rfl⟩
    have mv13 : oMag 1155 v13 := oMDiv mv10 (oBigL ev12 (by first | omega | (have oTs' := oTs; omega) | (simp only [Int32.reduceToInt, Int64.reduceToInt]; omega))) ev13 (by decide)
    refine oW.ddiv (pc' := 14) K d2_13 ev13 (oMNN mv13 (by decide)) rfl ?_
    refine oW.dstore (Ls' := #[.val (.double (FP.l2d X)), .second, .val (.long S), .second, .val (.int (2 : Int32)), .val (.long h), .second, .val (.long D), .second, .val (.double v13), .second]) (pc' := 16) K d2_14 rfl rfl ?_
    refine oW.goto (pc' := 26) K d2_16 (by decide) (by decide) ?_
    refine oW.lload (pc' := 28) K d2_26 rfl rfl ?_
    obtain ⟨v28, ev28⟩ : ∃ z : UInt64, z = FP.l2d h := ⟨_, rfl⟩
    refine oW.l2d (pc' := 29) K d2_28 ev28 rfl ?_
    refine oW.dload (pc' := 31) K d2_29 rfl rfl ?_
    obtain ⟨v31, ev31⟩ : ∃ z : UInt64, z = FP.dadd v28 v13 := ⟨_, rfl⟩
    have mv31 : oMag 1157 v31 := oMAdd (A := 1155) (Jvm.Free.Fl.Mag64.mono (oML2D ev28) (by decide)) mv13 ev31 (by decide)
    refine oW.dadd (pc' := 32) K d2_31 ev31 (oMNN mv31 (by decide)) rfl ?_
    exact oW.retD K rfl d2_32 (by decide) (by decide) ⟨_, rfl, _, rfl, by rw [ev31, ev28, ev13, ev10, ev9, ev12, oShare, if_pos (by first | omega | (have oTs' := oTs; omega) | (simp only [Int32.reduceToInt, Int64.reduceToInt]; omega))], rfl⟩
set_option maxRecDepth 65536 in
set_option maxHeartbeats 40000000 in
theorem own_ex3 {l : Launch} {Z : State} {a0 : Array Value} {h0 : Heap} (hw : ∀ d ∈ tables_1, d.before a0 Z = true) (X S h D : Int64) (ds : oDs) :
    oCtr l Z h0 [] (⟨"com/example/lotwise/lotwise/auction/PauseAuctionSpreadPinLaw", "expected", "(DJIJJ)D"⟩ : MethodName) method_3_code 11 (some .double) ({ frames := 0, cells := 0, slots := 0, locals := 0 } : Room) #[(.double (FP.l2d X)), (.long S), (.int (3 : Int32)), (.long h), (.long D)] ds (oVal fun w dd => ∃ y : UInt64, w = .double y ∧ y = FP.dadd (FP.l2d h) (oShare X S D (4613937818241073152 : UInt64)) ∧ dd = ds) := by
  refine oCtr.of (Ls := #[.val (.double (FP.l2d X)), .second, .val (.long S), .second, .val (.int (3 : Int32)), .val (.long h), .second, .val (.long D), .second, .unset, .unset]) (plainFor_of_name (by first | (simp [plainName, overriddenIn]; done) | decide +kernel)) (fun m => by first | (simp [entryFrame, mkF, argsToLocals, Value.category]; done) | rfl) ?_
  intro p e s m below meth c K
  refine oW.lloadN (pc' := 1) K d2_0 rfl rfl ?_
  refine oW.lconst (v := (0 : Int64)) (pc' := 2) K d2_1 (by decide) rfl ?_
  obtain ⟨v2, ev2⟩ : ∃ z : Int32, z = XT.cmpL S (0 : Int64) := ⟨_, rfl⟩
  refine oW.lcmp (pc' := 3) K d2_2 ev2 rfl ?_
  refine oW.if_le (pc' := 19) (pc3 := 6) K d2_3 (by decide) (by decide) rfl (fun c3 => ?_) (fun c3 => ?_)
  · rw [(oLcmp ev2).2.2] at c3
    refine oW.dloadN (pc' := 20) K d2_19 rfl rfl ?_
    refine oW.iload (pc' := 22) K d2_20 rfl rfl ?_
    refine oW.i2d (v := (4613937818241073152 : UInt64)) (pc' := 23) K d2_22 (by decide +kernel) rfl ?_
    obtain ⟨v23, ev23⟩ : ∃ z : UInt64, z = FP.ddiv (FP.l2d X) (4613937818241073152 : UInt64) := ⟨_, rfl⟩
    have mv23 : oMag 1088 v23 := oMDiv (oML2D rfl) (by unfold Big64; decide : Big64 1024 (4613937818241073152 : UInt64)) ev23 (by decide)
    refine oW.ddiv (pc' := 24) K d2_23 ev23 (oMNN mv23 (by decide)) rfl ?_
    refine oW.dstore (Ls' := #[.val (.double (FP.l2d X)), .second, .val (.long S), .second, .val (.int (3 : Int32)), .val (.long h), .second, .val (.long D), .second, .val (.double v23), .second]) (pc' := 26) K d2_24 rfl rfl ?_
    refine oW.lload (pc' := 28) K d2_26 rfl rfl ?_
    obtain ⟨v28, ev28⟩ : ∃ z : UInt64, z = FP.l2d h := ⟨_, rfl⟩
    refine oW.l2d (pc' := 29) K d2_28 ev28 rfl ?_
    refine oW.dload (pc' := 31) K d2_29 rfl rfl ?_
    obtain ⟨v31, ev31⟩ : ∃ z : UInt64, z = FP.dadd v28 v23 := ⟨_, rfl⟩
    have mv31 : oMag 1090 v31 := oMAdd (A := 1088) (oML2D ev28) mv23 ev31 (by decide)
    refine oW.dadd (pc' := 32) K d2_31 ev31 (oMNN mv31 (by decide)) rfl ?_
    exact oW.retD K rfl d2_32 (by decide) (by decide) ⟨_, rfl, _, rfl, by rw [ev31, ev28, ev23, oShare, if_neg (by first | omega | (have oTs' := oTs; omega) | (simp only [Int32.reduceToInt, Int64.reduceToInt]; omega))], rfl⟩
  · rw [(oLcmp ev2).2.2] at c3
    refine oW.dloadN (pc' := 7) K d2_6 rfl rfl ?_
    refine oW.lload (pc' := 9) K d2_7 rfl rfl ?_
    obtain ⟨v9, ev9⟩ : ∃ z : UInt64, z = FP.l2d D := ⟨_, rfl⟩
    refine oW.l2d (pc' := 10) K d2_9 ev9 rfl ?_
    obtain ⟨v10, ev10⟩ : ∃ z : UInt64, z = FP.dmul (FP.l2d X) v9 := ⟨_, rfl⟩
    have mv10 : oMag 1154 v10 := oMMul (oML2D rfl) (oML2D ev9) ev10 (by decide)
    refine oW.dmul (pc' := 11) K d2_10 ev10 (oMNN mv10 (by decide)) rfl ?_
    refine oW.lloadN (pc' := 12) K d2_11 rfl rfl ?_
    obtain ⟨v12, ev12⟩ : ∃ z : UInt64, z = FP.l2d S := ⟨_, rfl⟩
    refine oW.l2d (pc' := 13) K d2_12 ev12 rfl ?_
    obtain ⟨v13, ev13⟩ : ∃ z : UInt64, z = FP.ddiv v10 v12 := ⟨_, rfl⟩
    have mv13 : oMag 1155 v13 := oMDiv mv10 (oBigL ev12 (by first | omega | (have oTs' := oTs; omega) | (simp only [Int32.reduceToInt, Int64.reduceToInt]; omega))) ev13 (by decide)
    refine oW.ddiv (pc' := 14) K d2_13 ev13 (oMNN mv13 (by decide)) rfl ?_
    refine oW.dstore (Ls' := #[.val (.double (FP.l2d X)), .second, .val (.long S), .second, .val (.int (3 : Int32)), .val (.long h), .second, .val (.long D), .second, .val (.double v13), .second]) (pc' := 16) K d2_14 rfl rfl ?_
    refine oW.goto (pc' := 26) K d2_16 (by decide) (by decide) ?_
    refine oW.lload (pc' := 28) K d2_26 rfl rfl ?_
    obtain ⟨v28, ev28⟩ : ∃ z : UInt64, z = FP.l2d h := ⟨_, rfl⟩
    refine oW.l2d (pc' := 29) K d2_28 ev28 rfl ?_
    refine oW.dload (pc' := 31) K d2_29 rfl rfl ?_
    obtain ⟨v31, ev31⟩ : ∃ z : UInt64, z = FP.dadd v28 v13 := ⟨_, rfl⟩
    have mv31 : oMag 1157 v31 := oMAdd (A := 1155) (Jvm.Free.Fl.Mag64.mono (oML2D ev28) (by decide)) mv13 ev31 (by decide)
    refine oW.dadd (pc' := 32) K d2_31 ev31 (oMNN mv31 (by decide)) rfl ?_
    exact oW.retD K rfl d2_32 (by decide) (by decide) ⟨_, rfl, _, rfl, by rw [ev31, ev28, ev13, ev10, ev9, ev12, oShare, if_pos (by first | omega | (have oTs' := oTs; omega) | (simp only [Int32.reduceToInt, Int64.reduceToInt]; omega))], rfl⟩
theorem pd_0 : parseMethodDescriptor "(D[D[D)[D" = some ⟨[.double, (.array .double), (.array .double)], some (.array .double)⟩ := by decide +kernel
theorem pd_1 : parseMethodDescriptor "(DJIJJ)D" = some ⟨[.double, .long, .int, .long, .long], some .double⟩ := by decide +kernel
set_option maxRecDepth 65536 in
set_option maxHeartbeats 40000000 in
theorem own_law {l : Launch} {Z : State} {a0 : Array Value} {h0 : Heap} (hw : ∀ d ∈ tables_1, d.before a0 Z = true) (p0 : Int32) (p1 : Int32) (q2 : Int64) (q3 : Int64) (q4 : Int64) (q5 : Int64) :
    oCtr l Z h0 tables_1 x code maxLocals ret room_1 #[(.int p0), (.int p1), (.long q2), (.long q3), (.long q4), (.long q5)] [] (oVal fun w _ => w = .int 1) := by
  refine oCtr.of (Ls := #[.val (.int p0), .val (.int p1), .val (.long q2), .second, .val (.long q3), .second, .val (.long q4), .second, .val (.long q5), .second, .unset, .unset, .unset, .unset, .unset, .unset, .unset, .unset, .unset, .unset, .unset, .unset, .unset, .unset, .unset, .unset, .unset, .unset, .unset, .unset, .unset, .unset, .unset, .unset, .unset, .unset, .unset, .unset, .unset]) (plainFor_of_name (by first | (simp [plainName, overriddenIn]; done) | decide +kernel)) (fun m => by first | (simp [entryFrame, mkF, argsToLocals, Value.category, maxLocals]; done) | rfl) ?_
  intro p e s m below meth c K
  refine oW.iloadN (pc' := 1) K at_0 rfl rfl ?_
  refine oW.iconst (v := (3 : Int32)) (pc' := 2) K at_1 (by decide) rfl ?_
  obtain ⟨v2, ev2⟩ : ∃ z : Int32, z = p0 &&& (3 : Int32) := ⟨_, rfl⟩
  refine oW.iand (pc' := 3) K at_2 ev2 rfl ?_
  refine oW.istore (Ls' := #[.val (.int p0), .val (.int p1), .val (.long q2), .second, .val (.long q3), .second, .val (.long q4), .second, .val (.long q5), .second, .val (.int v2), .unset, .unset, .unset, .unset, .unset, .unset, .unset, .unset, .unset, .unset, .unset, .unset, .unset, .unset, .unset, .unset, .unset, .unset, .unset, .unset, .unset, .unset, .unset, .unset, .unset, .unset, .unset, .unset]) (pc' := 5) K at_3 rfl rfl ?_
  rcases oMask3 ev2 with hv2 | hv2 | hv2 | hv2
  · subst hv2
    refine oW.lloadN (pc' := 6) K at_5 rfl rfl ?_
    obtain ⟨v6, ev6⟩ : ∃ z : Int32, z = q2.toInt32 := ⟨_, rfl⟩
    refine oW.l2i (pc' := 7) K at_6 ev6 rfl ?_
    have tv6 := oB32 v6
    obtain ⟨v7, ev7⟩ : ∃ z : Int64, z = v6.toInt64 := ⟨_, rfl⟩
    refine oW.i2l (pc' := 8) K at_7 ev7 rfl ?_
    have tv7 : v7.toInt = _ := oI2L ev7
    refine oW.lstore (Ls' := #[.val (.int p0), .val (.int p1), .val (.long q2), .second, .val (.long q3), .second, .val (.long q4), .second, .val (.long q5), .second, .val (.int (0 : Int32)), .val (.long v7), .second, .unset, .unset, .unset, .unset, .unset, .unset, .unset, .unset, .unset, .unset, .unset, .unset, .unset, .unset, .unset, .unset, .unset, .unset, .unset, .unset, .unset, .unset, .unset, .unset, .unset, .unset]) (pc' := 10) K at_8 rfl rfl ?_
    refine oW.lloadN (pc' := 11) K at_10 rfl rfl ?_
    refine oW.bipush (v := (32 : Int32)) (pc' := 13) K at_11 (by decide) rfl ?_
    obtain ⟨v13, ev13⟩ : ∃ z : Int64, z = q2 >>> ((32 : Int32).toInt64 &&& 63) := ⟨_, rfl⟩
    refine oW.lshr (pc' := 14) K at_13 ev13 rfl ?_
    obtain ⟨v14, ev14⟩ : ∃ z : Int32, z = v13.toInt32 := ⟨_, rfl⟩
    refine oW.l2i (pc' := 15) K at_14 ev14 rfl ?_
    have tv14 := oB32 v14
    obtain ⟨v15, ev15⟩ : ∃ z : Int64, z = v14.toInt64 := ⟨_, rfl⟩
    refine oW.i2l (pc' := 16) K at_15 ev15 rfl ?_
    have tv15 : v15.toInt = _ := oI2L ev15
    refine oW.lstore (Ls' := #[.val (.int p0), .val (.int p1), .val (.long q2), .second, .val (.long q3), .second, .val (.long q4), .second, .val (.long q5), .second, .val (.int (0 : Int32)), .val (.long v7), .second, .val (.long v15), .second, .unset, .unset, .unset, .unset, .unset, .unset, .unset, .unset, .unset, .unset, .unset, .unset, .unset, .unset, .unset, .unset, .unset, .unset, .unset, .unset, .unset, .unset, .unset, .unset]) (pc' := 18) K at_16 rfl rfl ?_
    refine oW.lload (pc' := 20) K at_18 rfl rfl ?_
    obtain ⟨v20, ev20⟩ : ∃ z : Int32, z = q3.toInt32 := ⟨_, rfl⟩
    refine oW.l2i (pc' := 21) K at_20 ev20 rfl ?_
    have tv20 := oB32 v20
    obtain ⟨v21, ev21⟩ : ∃ z : Int64, z = v20.toInt64 := ⟨_, rfl⟩
    refine oW.i2l (pc' := 22) K at_21 ev21 rfl ?_
    have tv21 : v21.toInt = _ := oI2L ev21
    refine oW.lstore (Ls' := #[.val (.int p0), .val (.int p1), .val (.long q2), .second, .val (.long q3), .second, .val (.long q4), .second, .val (.long q5), .second, .val (.int (0 : Int32)), .val (.long v7), .second, .val (.long v15), .second, .val (.long v21), .second, .unset, .unset, .unset, .unset, .unset, .unset, .unset, .unset, .unset, .unset, .unset, .unset, .unset, .unset, .unset, .unset, .unset, .unset, .unset, .unset, .unset, .unset]) (pc' := 24) K at_22 rfl rfl ?_
    refine oW.lload (pc' := 26) K at_24 rfl rfl ?_
    obtain ⟨v26, ev26⟩ : ∃ z : Int32, z = q4.toInt32 := ⟨_, rfl⟩
    refine oW.l2i (pc' := 27) K at_26 ev26 rfl ?_
    have tv26 := oB32 v26
    obtain ⟨v27, ev27⟩ : ∃ z : Int64, z = v26.toInt64 := ⟨_, rfl⟩
    refine oW.i2l (pc' := 28) K at_27 ev27 rfl ?_
    have tv27 : v27.toInt = _ := oI2L ev27
    refine oW.lstore (Ls' := #[.val (.int p0), .val (.int p1), .val (.long q2), .second, .val (.long q3), .second, .val (.long q4), .second, .val (.long q5), .second, .val (.int (0 : Int32)), .val (.long v7), .second, .val (.long v15), .second, .val (.long v21), .second, .val (.long v27), .second, .unset, .unset, .unset, .unset, .unset, .unset, .unset, .unset, .unset, .unset, .unset, .unset, .unset, .unset, .unset, .unset, .unset, .unset, .unset, .unset]) (pc' := 30) K at_28 rfl rfl ?_
    refine oW.lload (pc' := 32) K at_30 rfl rfl ?_
    refine oW.bipush (v := (32 : Int32)) (pc' := 34) K at_32 (by decide) rfl ?_
    obtain ⟨v34, ev34⟩ : ∃ z : Int64, z = q4 >>> ((32 : Int32).toInt64 &&& 63) := ⟨_, rfl⟩
    refine oW.lshr (pc' := 35) K at_34 ev34 rfl ?_
    obtain ⟨v35, ev35⟩ : ∃ z : Int32, z = v34.toInt32 := ⟨_, rfl⟩
    refine oW.l2i (pc' := 36) K at_35 ev35 rfl ?_
    have tv35 := oB32 v35
    obtain ⟨v36, ev36⟩ : ∃ z : Int64, z = v35.toInt64 := ⟨_, rfl⟩
    refine oW.i2l (pc' := 37) K at_36 ev36 rfl ?_
    have tv36 : v36.toInt = _ := oI2L ev36
    refine oW.lstore (Ls' := #[.val (.int p0), .val (.int p1), .val (.long q2), .second, .val (.long q3), .second, .val (.long q4), .second, .val (.long q5), .second, .val (.int (0 : Int32)), .val (.long v7), .second, .val (.long v15), .second, .val (.long v21), .second, .val (.long v27), .second, .val (.long v36), .second, .unset, .unset, .unset, .unset, .unset, .unset, .unset, .unset, .unset, .unset, .unset, .unset, .unset, .unset, .unset, .unset, .unset, .unset]) (pc' := 39) K at_37 rfl rfl ?_
    refine oW.lload (pc' := 41) K at_39 rfl rfl ?_
    obtain ⟨v41, ev41⟩ : ∃ z : Int32, z = q5.toInt32 := ⟨_, rfl⟩
    refine oW.l2i (pc' := 42) K at_41 ev41 rfl ?_
    have tv41 := oB32 v41
    obtain ⟨v42, ev42⟩ : ∃ z : Int64, z = v41.toInt64 := ⟨_, rfl⟩
    refine oW.i2l (pc' := 43) K at_42 ev42 rfl ?_
    have tv42 : v42.toInt = _ := oI2L ev42
    refine oW.lstore (Ls' := #[.val (.int p0), .val (.int p1), .val (.long q2), .second, .val (.long q3), .second, .val (.long q4), .second, .val (.long q5), .second, .val (.int (0 : Int32)), .val (.long v7), .second, .val (.long v15), .second, .val (.long v21), .second, .val (.long v27), .second, .val (.long v36), .second, .val (.long v42), .second, .unset, .unset, .unset, .unset, .unset, .unset, .unset, .unset, .unset, .unset, .unset, .unset, .unset, .unset, .unset, .unset]) (pc' := 45) K at_43 rfl rfl ?_
    refine oW.lload (pc' := 47) K at_45 rfl rfl ?_
    refine oW.lload (pc' := 49) K at_47 rfl rfl ?_
    obtain ⟨v49, ev49⟩ : ∃ z : Int64, z = v7 - v27 := ⟨_, rfl⟩
    refine oW.lsub (pc' := 50) K at_49 ev49 rfl ?_
    have tv49 := oLsub ev49 (by first | omega | (have oTs' := oTs; omega) | (simp only [Int32.reduceToInt, Int64.reduceToInt]; omega))
    try simp only [Int32.reduceToInt, Int64.reduceToInt] at tv49
    refine oW.lstore (Ls' := #[.val (.int p0), .val (.int p1), .val (.long q2), .second, .val (.long q3), .second, .val (.long q4), .second, .val (.long q5), .second, .val (.int (0 : Int32)), .val (.long v7), .second, .val (.long v15), .second, .val (.long v21), .second, .val (.long v27), .second, .val (.long v36), .second, .val (.long v42), .second, .val (.long v49), .second, .unset, .unset, .unset, .unset, .unset, .unset, .unset, .unset, .unset, .unset, .unset, .unset, .unset, .unset]) (pc' := 52) K at_50 rfl rfl ?_
    refine oW.lload (pc' := 54) K at_52 rfl rfl ?_
    refine oW.lload (pc' := 56) K at_54 rfl rfl ?_
    obtain ⟨v56, ev56⟩ : ∃ z : Int64, z = v15 - v36 := ⟨_, rfl⟩
    refine oW.lsub (pc' := 57) K at_56 ev56 rfl ?_
    have tv56 := oLsub ev56 (by first | omega | (have oTs' := oTs; omega) | (simp only [Int32.reduceToInt, Int64.reduceToInt]; omega))
    try simp only [Int32.reduceToInt, Int64.reduceToInt] at tv56
    refine oW.lstore (Ls' := #[.val (.int p0), .val (.int p1), .val (.long q2), .second, .val (.long q3), .second, .val (.long q4), .second, .val (.long q5), .second, .val (.int (0 : Int32)), .val (.long v7), .second, .val (.long v15), .second, .val (.long v21), .second, .val (.long v27), .second, .val (.long v36), .second, .val (.long v42), .second, .val (.long v49), .second, .val (.long v56), .second, .unset, .unset, .unset, .unset, .unset, .unset, .unset, .unset, .unset, .unset, .unset, .unset]) (pc' := 59) K at_57 rfl rfl ?_
    refine oW.lload (pc' := 61) K at_59 rfl rfl ?_
    refine oW.lload (pc' := 63) K at_61 rfl rfl ?_
    obtain ⟨v63, ev63⟩ : ∃ z : Int64, z = v21 - v42 := ⟨_, rfl⟩
    refine oW.lsub (pc' := 64) K at_63 ev63 rfl ?_
    have tv63 := oLsub ev63 (by first | omega | (have oTs' := oTs; omega) | (simp only [Int32.reduceToInt, Int64.reduceToInt]; omega))
    try simp only [Int32.reduceToInt, Int64.reduceToInt] at tv63
    refine oW.lstore (Ls' := #[.val (.int p0), .val (.int p1), .val (.long q2), .second, .val (.long q3), .second, .val (.long q4), .second, .val (.long q5), .second, .val (.int (0 : Int32)), .val (.long v7), .second, .val (.long v15), .second, .val (.long v21), .second, .val (.long v27), .second, .val (.long v36), .second, .val (.long v42), .second, .val (.long v49), .second, .val (.long v56), .second, .val (.long v63), .second, .unset, .unset, .unset, .unset, .unset, .unset, .unset, .unset, .unset, .unset]) (pc' := 66) K at_64 rfl rfl ?_
    refine oW.iload (pc' := 68) K at_66 rfl rfl ?_
    refine oW.newarr (n := 0) (cells' := 1) (slots' := 0) (dsf := fun z => [(z, .inl (.double, []))]) (pc' := 70) K (hw _ (List.mem_of_getElem? (i := 0) rfl)) at_68 rfl (by decide) (by decide) (by decide) (by decide) rfl rfl (fun _ => rfl) rfl ?_
    intro a68 ha68
    refine oW.astore (Ls' := #[.val (.int p0), .val (.int p1), .val (.long q2), .second, .val (.long q3), .second, .val (.long q4), .second, .val (.long q5), .second, .val (.int (0 : Int32)), .val (.long v7), .second, .val (.long v15), .second, .val (.long v21), .second, .val (.long v27), .second, .val (.long v36), .second, .val (.long v42), .second, .val (.long v49), .second, .val (.long v56), .second, .val (.long v63), .second, .val (.ref a68), .unset, .unset, .unset, .unset, .unset, .unset, .unset, .unset, .unset]) (pc' := 72) K at_70 rfl rfl rfl ?_
    refine oW.iload (pc' := 74) K at_72 rfl rfl ?_
    refine oW.newarr (n := 0) (cells' := 2) (slots' := 0) (dsf := fun z => [(a68, .inl (.double, [])), (z, .inl (.double, []))]) (pc' := 76) K (hw _ (List.mem_of_getElem? (i := 0) rfl)) at_74 rfl (by decide) (by decide) (by decide) (by decide) rfl rfl (fun _ => rfl) rfl ?_
    intro a74 ha74
    refine oW.astore (Ls' := #[.val (.int p0), .val (.int p1), .val (.long q2), .second, .val (.long q3), .second, .val (.long q4), .second, .val (.long q5), .second, .val (.int (0 : Int32)), .val (.long v7), .second, .val (.long v15), .second, .val (.long v21), .second, .val (.long v27), .second, .val (.long v36), .second, .val (.long v42), .second, .val (.long v49), .second, .val (.long v56), .second, .val (.long v63), .second, .val (.ref a68), .val (.ref a74), .unset, .unset, .unset, .unset, .unset, .unset, .unset, .unset]) (pc' := 78) K at_76 rfl rfl rfl ?_
    refine oW.lconst (v := (0 : Int64)) (pc' := 79) K at_78 (by decide) rfl ?_
    refine oW.lstore (Ls' := #[.val (.int p0), .val (.int p1), .val (.long q2), .second, .val (.long q3), .second, .val (.long q4), .second, .val (.long q5), .second, .val (.int (0 : Int32)), .val (.long v7), .second, .val (.long v15), .second, .val (.long v21), .second, .val (.long v27), .second, .val (.long v36), .second, .val (.long v42), .second, .val (.long v49), .second, .val (.long v56), .second, .val (.long v63), .second, .val (.ref a68), .val (.ref a74), .val (.long (0 : Int64)), .second, .unset, .unset, .unset, .unset, .unset, .unset]) (pc' := 81) K at_79 rfl rfl ?_
    refine oW.lconst (v := (0 : Int64)) (pc' := 82) K at_81 (by decide) rfl ?_
    refine oW.lstore (Ls' := #[.val (.int p0), .val (.int p1), .val (.long q2), .second, .val (.long q3), .second, .val (.long q4), .second, .val (.long q5), .second, .val (.int (0 : Int32)), .val (.long v7), .second, .val (.long v15), .second, .val (.long v21), .second, .val (.long v27), .second, .val (.long v36), .second, .val (.long v42), .second, .val (.long v49), .second, .val (.long v56), .second, .val (.long v63), .second, .val (.ref a68), .val (.ref a74), .val (.long (0 : Int64)), .second, .val (.long (0 : Int64)), .second, .unset, .unset, .unset, .unset]) (pc' := 84) K at_82 rfl rfl ?_
    refine oW.iload (pc' := 86) K at_84 rfl rfl ?_
    refine oW.if_le (pc' := 117) (pc3 := 89) K at_86 (by decide) (by decide) rfl (fun _ => ?_) (fun q => absurd q (by decide))
    refine oW.iload (pc' := 119) K at_117 rfl rfl ?_
    refine oW.iconst (v := (1 : Int32)) (pc' := 120) K at_119 (by decide) rfl ?_
    refine oW.icmp_le (pc' := 151) (pc3 := 123) K at_120 (by decide) (by decide) rfl (fun _ => ?_) (fun q => absurd q (by decide))
    refine oW.iload (pc' := 153) K at_151 rfl rfl ?_
    refine oW.iconst (v := (2 : Int32)) (pc' := 154) K at_153 (by decide) rfl ?_
    refine oW.icmp_le (pc' := 185) (pc3 := 157) K at_154 (by decide) (by decide) rfl (fun _ => ?_) (fun q => absurd q (by decide))
    refine oW.iloadN (pc' := 186) K at_185 rfl rfl ?_
    obtain ⟨v186, ev186⟩ : ∃ z : UInt64, z = FP.i2d p1 := ⟨_, rfl⟩
    have lv186 : v186 = FP.l2d p1.toInt64 := ev186.trans (i2d_w _)
    refine oW.i2d (pc' := 187) K at_186 ev186 rfl ?_
    refine oW.aload (pc' := 189) K at_187 rfl rfl rfl ?_
    refine oW.aload (pc' := 191) K at_189 rfl rfl rfl ?_
    have bp1 := oB32 p1
    have tp1 : p1.toInt64.toInt = p1.toInt := oI2L rfl
    obtain ⟨X, hX⟩ := oI64 (p1.toInt - 0) (by first | omega | (have oTs' := oTs; omega) | (simp only [Int32.reduceToInt, Int64.reduceToInt]; omega))
    rw [lv186]
    refine oW.callS (argsL := [(.double (FP.l2d p1.toInt64)), (.ref a68), (.ref a74)]) (S := []) (rm := ({ frames := 0, cells := 1, slots := 0, locals := 0 } : Room)) (W := 0) (cells' := 3) (slots' := 0) (pc' := 194) K (hw _ (List.mem_of_getElem? (i := 1) rfl)) (hw _ (List.mem_of_getElem? (i := 2) rfl)) (hw _ (List.mem_of_getElem? (i := 3) rfl)) (hw _ (List.mem_of_getElem? (i := 4) rfl)) (by decide) (own_sp0 hw a68 a74 p1.toInt64 X (0 : Int64) (by omega) (by first | omega | (have oTs' := oTs; omega) | (simp only [Int32.reduceToInt, Int64.reduceToInt]; omega)) (by first | omega | (have oTs' := oTs; omega) | (simp only [Int32.reduceToInt, Int64.reduceToInt]; omega))) (lenOf pd_0 rfl) at_191 rfl rfl (Nat.le_of_eq rfl) (by decide) (by decide) (by decide) (by decide) rfl rfl rfl ?_
    rintro _ _ ⟨c, rfl, rfl⟩
    refine oW.astore (Ls' := #[.val (.int p0), .val (.int p1), .val (.long q2), .second, .val (.long q3), .second, .val (.long q4), .second, .val (.long q5), .second, .val (.int (0 : Int32)), .val (.long v7), .second, .val (.long v15), .second, .val (.long v21), .second, .val (.long v27), .second, .val (.long v36), .second, .val (.long v42), .second, .val (.long v49), .second, .val (.long v56), .second, .val (.long v63), .second, .val (.ref a68), .val (.ref a74), .val (.long (0 : Int64)), .second, .val (.long (0 : Int64)), .second, .val (.ref c), .unset, .unset, .unset]) (pc' := 196) K at_194 rfl rfl rfl ?_
    refine oW.aload (pc' := 198) K at_196 rfl rfl rfl ?_
    refine oW.ifnullNo (pc' := 201) K at_198 rfl ?_
    refine oW.aload (pc' := 203) K at_201 rfl rfl rfl ?_
    refine oW.alen (i := 2) (v := (0 : Int32)) (pc' := 204) K at_203 rfl rfl rfl ?_
    refine oW.iload (pc' := 206) K at_204 rfl rfl ?_
    refine oW.icmp_eq (pc' := 211) (pc3 := 209) K at_206 (by decide) (by decide) rfl (fun _ => ?_) (fun q => absurd q (by decide))
    refine oW.iload (pc' := 213) K at_211 rfl rfl ?_
    refine oW.if_ne (pc' := 218) (pc3 := 216) K at_213 (by decide) (by decide) rfl (fun q => absurd q (by decide)) (fun _ => ?_)
    refine oW.iconst (v := (1 : Int32)) (pc' := 217) K at_216 (by decide) rfl ?_
    exact oW.retB K rfl at_217 (by decide) (by decide) ⟨_, rfl, rfl⟩
  · subst hv2
    refine oW.lloadN (pc' := 6) K at_5 rfl rfl ?_
    obtain ⟨v6, ev6⟩ : ∃ z : Int32, z = q2.toInt32 := ⟨_, rfl⟩
    refine oW.l2i (pc' := 7) K at_6 ev6 rfl ?_
    have tv6 := oB32 v6
    obtain ⟨v7, ev7⟩ : ∃ z : Int64, z = v6.toInt64 := ⟨_, rfl⟩
    refine oW.i2l (pc' := 8) K at_7 ev7 rfl ?_
    have tv7 : v7.toInt = _ := oI2L ev7
    refine oW.lstore (Ls' := #[.val (.int p0), .val (.int p1), .val (.long q2), .second, .val (.long q3), .second, .val (.long q4), .second, .val (.long q5), .second, .val (.int (1 : Int32)), .val (.long v7), .second, .unset, .unset, .unset, .unset, .unset, .unset, .unset, .unset, .unset, .unset, .unset, .unset, .unset, .unset, .unset, .unset, .unset, .unset, .unset, .unset, .unset, .unset, .unset, .unset, .unset, .unset]) (pc' := 10) K at_8 rfl rfl ?_
    refine oW.lloadN (pc' := 11) K at_10 rfl rfl ?_
    refine oW.bipush (v := (32 : Int32)) (pc' := 13) K at_11 (by decide) rfl ?_
    obtain ⟨v13, ev13⟩ : ∃ z : Int64, z = q2 >>> ((32 : Int32).toInt64 &&& 63) := ⟨_, rfl⟩
    refine oW.lshr (pc' := 14) K at_13 ev13 rfl ?_
    obtain ⟨v14, ev14⟩ : ∃ z : Int32, z = v13.toInt32 := ⟨_, rfl⟩
    refine oW.l2i (pc' := 15) K at_14 ev14 rfl ?_
    have tv14 := oB32 v14
    obtain ⟨v15, ev15⟩ : ∃ z : Int64, z = v14.toInt64 := ⟨_, rfl⟩
    refine oW.i2l (pc' := 16) K at_15 ev15 rfl ?_
    have tv15 : v15.toInt = _ := oI2L ev15
    refine oW.lstore (Ls' := #[.val (.int p0), .val (.int p1), .val (.long q2), .second, .val (.long q3), .second, .val (.long q4), .second, .val (.long q5), .second, .val (.int (1 : Int32)), .val (.long v7), .second, .val (.long v15), .second, .unset, .unset, .unset, .unset, .unset, .unset, .unset, .unset, .unset, .unset, .unset, .unset, .unset, .unset, .unset, .unset, .unset, .unset, .unset, .unset, .unset, .unset, .unset, .unset]) (pc' := 18) K at_16 rfl rfl ?_
    refine oW.lload (pc' := 20) K at_18 rfl rfl ?_
    obtain ⟨v20, ev20⟩ : ∃ z : Int32, z = q3.toInt32 := ⟨_, rfl⟩
    refine oW.l2i (pc' := 21) K at_20 ev20 rfl ?_
    have tv20 := oB32 v20
    obtain ⟨v21, ev21⟩ : ∃ z : Int64, z = v20.toInt64 := ⟨_, rfl⟩
    refine oW.i2l (pc' := 22) K at_21 ev21 rfl ?_
    have tv21 : v21.toInt = _ := oI2L ev21
    refine oW.lstore (Ls' := #[.val (.int p0), .val (.int p1), .val (.long q2), .second, .val (.long q3), .second, .val (.long q4), .second, .val (.long q5), .second, .val (.int (1 : Int32)), .val (.long v7), .second, .val (.long v15), .second, .val (.long v21), .second, .unset, .unset, .unset, .unset, .unset, .unset, .unset, .unset, .unset, .unset, .unset, .unset, .unset, .unset, .unset, .unset, .unset, .unset, .unset, .unset, .unset, .unset]) (pc' := 24) K at_22 rfl rfl ?_
    refine oW.lload (pc' := 26) K at_24 rfl rfl ?_
    obtain ⟨v26, ev26⟩ : ∃ z : Int32, z = q4.toInt32 := ⟨_, rfl⟩
    refine oW.l2i (pc' := 27) K at_26 ev26 rfl ?_
    have tv26 := oB32 v26
    obtain ⟨v27, ev27⟩ : ∃ z : Int64, z = v26.toInt64 := ⟨_, rfl⟩
    refine oW.i2l (pc' := 28) K at_27 ev27 rfl ?_
    have tv27 : v27.toInt = _ := oI2L ev27
    refine oW.lstore (Ls' := #[.val (.int p0), .val (.int p1), .val (.long q2), .second, .val (.long q3), .second, .val (.long q4), .second, .val (.long q5), .second, .val (.int (1 : Int32)), .val (.long v7), .second, .val (.long v15), .second, .val (.long v21), .second, .val (.long v27), .second, .unset, .unset, .unset, .unset, .unset, .unset, .unset, .unset, .unset, .unset, .unset, .unset, .unset, .unset, .unset, .unset, .unset, .unset, .unset, .unset]) (pc' := 30) K at_28 rfl rfl ?_
    refine oW.lload (pc' := 32) K at_30 rfl rfl ?_
    refine oW.bipush (v := (32 : Int32)) (pc' := 34) K at_32 (by decide) rfl ?_
    obtain ⟨v34, ev34⟩ : ∃ z : Int64, z = q4 >>> ((32 : Int32).toInt64 &&& 63) := ⟨_, rfl⟩
    refine oW.lshr (pc' := 35) K at_34 ev34 rfl ?_
    obtain ⟨v35, ev35⟩ : ∃ z : Int32, z = v34.toInt32 := ⟨_, rfl⟩
    refine oW.l2i (pc' := 36) K at_35 ev35 rfl ?_
    have tv35 := oB32 v35
    obtain ⟨v36, ev36⟩ : ∃ z : Int64, z = v35.toInt64 := ⟨_, rfl⟩
    refine oW.i2l (pc' := 37) K at_36 ev36 rfl ?_
    have tv36 : v36.toInt = _ := oI2L ev36
    refine oW.lstore (Ls' := #[.val (.int p0), .val (.int p1), .val (.long q2), .second, .val (.long q3), .second, .val (.long q4), .second, .val (.long q5), .second, .val (.int (1 : Int32)), .val (.long v7), .second, .val (.long v15), .second, .val (.long v21), .second, .val (.long v27), .second, .val (.long v36), .second, .unset, .unset, .unset, .unset, .unset, .unset, .unset, .unset, .unset, .unset, .unset, .unset, .unset, .unset, .unset, .unset, .unset, .unset]) (pc' := 39) K at_37 rfl rfl ?_
    refine oW.lload (pc' := 41) K at_39 rfl rfl ?_
    obtain ⟨v41, ev41⟩ : ∃ z : Int32, z = q5.toInt32 := ⟨_, rfl⟩
    refine oW.l2i (pc' := 42) K at_41 ev41 rfl ?_
    have tv41 := oB32 v41
    obtain ⟨v42, ev42⟩ : ∃ z : Int64, z = v41.toInt64 := ⟨_, rfl⟩
    refine oW.i2l (pc' := 43) K at_42 ev42 rfl ?_
    have tv42 : v42.toInt = _ := oI2L ev42
    refine oW.lstore (Ls' := #[.val (.int p0), .val (.int p1), .val (.long q2), .second, .val (.long q3), .second, .val (.long q4), .second, .val (.long q5), .second, .val (.int (1 : Int32)), .val (.long v7), .second, .val (.long v15), .second, .val (.long v21), .second, .val (.long v27), .second, .val (.long v36), .second, .val (.long v42), .second, .unset, .unset, .unset, .unset, .unset, .unset, .unset, .unset, .unset, .unset, .unset, .unset, .unset, .unset, .unset, .unset]) (pc' := 45) K at_43 rfl rfl ?_
    refine oW.lload (pc' := 47) K at_45 rfl rfl ?_
    refine oW.lload (pc' := 49) K at_47 rfl rfl ?_
    obtain ⟨v49, ev49⟩ : ∃ z : Int64, z = v7 - v27 := ⟨_, rfl⟩
    refine oW.lsub (pc' := 50) K at_49 ev49 rfl ?_
    have tv49 := oLsub ev49 (by first | omega | (have oTs' := oTs; omega) | (simp only [Int32.reduceToInt, Int64.reduceToInt]; omega))
    try simp only [Int32.reduceToInt, Int64.reduceToInt] at tv49
    refine oW.lstore (Ls' := #[.val (.int p0), .val (.int p1), .val (.long q2), .second, .val (.long q3), .second, .val (.long q4), .second, .val (.long q5), .second, .val (.int (1 : Int32)), .val (.long v7), .second, .val (.long v15), .second, .val (.long v21), .second, .val (.long v27), .second, .val (.long v36), .second, .val (.long v42), .second, .val (.long v49), .second, .unset, .unset, .unset, .unset, .unset, .unset, .unset, .unset, .unset, .unset, .unset, .unset, .unset, .unset]) (pc' := 52) K at_50 rfl rfl ?_
    refine oW.lload (pc' := 54) K at_52 rfl rfl ?_
    refine oW.lload (pc' := 56) K at_54 rfl rfl ?_
    obtain ⟨v56, ev56⟩ : ∃ z : Int64, z = v15 - v36 := ⟨_, rfl⟩
    refine oW.lsub (pc' := 57) K at_56 ev56 rfl ?_
    have tv56 := oLsub ev56 (by first | omega | (have oTs' := oTs; omega) | (simp only [Int32.reduceToInt, Int64.reduceToInt]; omega))
    try simp only [Int32.reduceToInt, Int64.reduceToInt] at tv56
    refine oW.lstore (Ls' := #[.val (.int p0), .val (.int p1), .val (.long q2), .second, .val (.long q3), .second, .val (.long q4), .second, .val (.long q5), .second, .val (.int (1 : Int32)), .val (.long v7), .second, .val (.long v15), .second, .val (.long v21), .second, .val (.long v27), .second, .val (.long v36), .second, .val (.long v42), .second, .val (.long v49), .second, .val (.long v56), .second, .unset, .unset, .unset, .unset, .unset, .unset, .unset, .unset, .unset, .unset, .unset, .unset]) (pc' := 59) K at_57 rfl rfl ?_
    refine oW.lload (pc' := 61) K at_59 rfl rfl ?_
    refine oW.lload (pc' := 63) K at_61 rfl rfl ?_
    obtain ⟨v63, ev63⟩ : ∃ z : Int64, z = v21 - v42 := ⟨_, rfl⟩
    refine oW.lsub (pc' := 64) K at_63 ev63 rfl ?_
    have tv63 := oLsub ev63 (by first | omega | (have oTs' := oTs; omega) | (simp only [Int32.reduceToInt, Int64.reduceToInt]; omega))
    try simp only [Int32.reduceToInt, Int64.reduceToInt] at tv63
    refine oW.lstore (Ls' := #[.val (.int p0), .val (.int p1), .val (.long q2), .second, .val (.long q3), .second, .val (.long q4), .second, .val (.long q5), .second, .val (.int (1 : Int32)), .val (.long v7), .second, .val (.long v15), .second, .val (.long v21), .second, .val (.long v27), .second, .val (.long v36), .second, .val (.long v42), .second, .val (.long v49), .second, .val (.long v56), .second, .val (.long v63), .second, .unset, .unset, .unset, .unset, .unset, .unset, .unset, .unset, .unset, .unset]) (pc' := 66) K at_64 rfl rfl ?_
    refine oW.iload (pc' := 68) K at_66 rfl rfl ?_
    refine oW.newarr (n := 1) (cells' := 1) (slots' := 1) (dsf := fun z => [(z, .inl (.double, [(.double (0 : UInt64))]))]) (pc' := 70) K (hw _ (List.mem_of_getElem? (i := 0) rfl)) at_68 rfl (by decide) (by decide) (by decide) (by decide) rfl rfl (fun _ => rfl) rfl ?_
    intro a68 ha68
    refine oW.astore (Ls' := #[.val (.int p0), .val (.int p1), .val (.long q2), .second, .val (.long q3), .second, .val (.long q4), .second, .val (.long q5), .second, .val (.int (1 : Int32)), .val (.long v7), .second, .val (.long v15), .second, .val (.long v21), .second, .val (.long v27), .second, .val (.long v36), .second, .val (.long v42), .second, .val (.long v49), .second, .val (.long v56), .second, .val (.long v63), .second, .val (.ref a68), .unset, .unset, .unset, .unset, .unset, .unset, .unset, .unset, .unset]) (pc' := 72) K at_70 rfl rfl rfl ?_
    refine oW.iload (pc' := 74) K at_72 rfl rfl ?_
    refine oW.newarr (n := 1) (cells' := 2) (slots' := 2) (dsf := fun z => [(a68, .inl (.double, [(.double (0 : UInt64))])), (z, .inl (.double, [(.double (0 : UInt64))]))]) (pc' := 76) K (hw _ (List.mem_of_getElem? (i := 0) rfl)) at_74 rfl (by decide) (by decide) (by decide) (by decide) rfl rfl (fun _ => rfl) rfl ?_
    intro a74 ha74
    refine oW.astore (Ls' := #[.val (.int p0), .val (.int p1), .val (.long q2), .second, .val (.long q3), .second, .val (.long q4), .second, .val (.long q5), .second, .val (.int (1 : Int32)), .val (.long v7), .second, .val (.long v15), .second, .val (.long v21), .second, .val (.long v27), .second, .val (.long v36), .second, .val (.long v42), .second, .val (.long v49), .second, .val (.long v56), .second, .val (.long v63), .second, .val (.ref a68), .val (.ref a74), .unset, .unset, .unset, .unset, .unset, .unset, .unset, .unset]) (pc' := 78) K at_76 rfl rfl rfl ?_
    refine oW.lconst (v := (0 : Int64)) (pc' := 79) K at_78 (by decide) rfl ?_
    refine oW.lstore (Ls' := #[.val (.int p0), .val (.int p1), .val (.long q2), .second, .val (.long q3), .second, .val (.long q4), .second, .val (.long q5), .second, .val (.int (1 : Int32)), .val (.long v7), .second, .val (.long v15), .second, .val (.long v21), .second, .val (.long v27), .second, .val (.long v36), .second, .val (.long v42), .second, .val (.long v49), .second, .val (.long v56), .second, .val (.long v63), .second, .val (.ref a68), .val (.ref a74), .val (.long (0 : Int64)), .second, .unset, .unset, .unset, .unset, .unset, .unset]) (pc' := 81) K at_79 rfl rfl ?_
    refine oW.lconst (v := (0 : Int64)) (pc' := 82) K at_81 (by decide) rfl ?_
    refine oW.lstore (Ls' := #[.val (.int p0), .val (.int p1), .val (.long q2), .second, .val (.long q3), .second, .val (.long q4), .second, .val (.long q5), .second, .val (.int (1 : Int32)), .val (.long v7), .second, .val (.long v15), .second, .val (.long v21), .second, .val (.long v27), .second, .val (.long v36), .second, .val (.long v42), .second, .val (.long v49), .second, .val (.long v56), .second, .val (.long v63), .second, .val (.ref a68), .val (.ref a74), .val (.long (0 : Int64)), .second, .val (.long (0 : Int64)), .second, .unset, .unset, .unset, .unset]) (pc' := 84) K at_82 rfl rfl ?_
    refine oW.iload (pc' := 86) K at_84 rfl rfl ?_
    refine oW.if_le (pc' := 117) (pc3 := 89) K at_86 (by decide) (by decide) rfl (fun q => absurd q (by decide)) (fun _ => ?_)
    refine oW.aload (pc' := 91) K at_89 rfl rfl rfl ?_
    refine oW.iconst (v := (0 : Int32)) (pc' := 92) K at_91 (by decide) rfl ?_
    refine oW.lload (pc' := 94) K at_92 rfl rfl ?_
    obtain ⟨v94, ev94⟩ : ∃ z : UInt64, z = FP.l2d v7 := ⟨_, rfl⟩
    refine oW.l2d (pc' := 95) K at_94 ev94 rfl ?_
    refine oW.dastore (i := 0) (k := 0) (ds' := [(a68, .inl (.double, [(.double v94)])), (a74, .inl (.double, [(.double (0 : UInt64))]))]) (pc' := 96) K at_95 rfl rfl (by decide) (Nat.lt_of_sub_eq_succ rfl) rfl rfl ?_
    refine oW.aload (pc' := 98) K at_96 rfl rfl rfl ?_
    refine oW.iconst (v := (0 : Int32)) (pc' := 99) K at_98 (by decide) rfl ?_
    refine oW.lload (pc' := 101) K at_99 rfl rfl ?_
    obtain ⟨v101, ev101⟩ : ∃ z : UInt64, z = FP.l2d v27 := ⟨_, rfl⟩
    refine oW.l2d (pc' := 102) K at_101 ev101 rfl ?_
    refine oW.dastore (i := 1) (k := 0) (ds' := [(a68, .inl (.double, [(.double v94)])), (a74, .inl (.double, [(.double v101)]))]) (pc' := 103) K at_102 rfl rfl (by decide) (Nat.lt_of_sub_eq_succ rfl) rfl rfl ?_
    refine oW.lload (pc' := 105) K at_103 rfl rfl ?_
    refine oW.lload (pc' := 107) K at_105 rfl rfl ?_
    obtain ⟨v107, ev107⟩ : ∃ z : Int64, z = (0 : Int64) + v27 := ⟨_, rfl⟩
    refine oW.ladd (pc' := 108) K at_107 ev107 rfl ?_
    have tv107 := oLadd ev107 (by first | omega | (have oTs' := oTs; omega) | (simp only [Int32.reduceToInt, Int64.reduceToInt]; omega))
    try simp only [Int32.reduceToInt, Int64.reduceToInt] at tv107
    refine oW.lstore (Ls' := #[.val (.int p0), .val (.int p1), .val (.long q2), .second, .val (.long q3), .second, .val (.long q4), .second, .val (.long q5), .second, .val (.int (1 : Int32)), .val (.long v7), .second, .val (.long v15), .second, .val (.long v21), .second, .val (.long v27), .second, .val (.long v36), .second, .val (.long v42), .second, .val (.long v49), .second, .val (.long v56), .second, .val (.long v63), .second, .val (.ref a68), .val (.ref a74), .val (.long v107), .second, .val (.long (0 : Int64)), .second, .unset, .unset, .unset, .unset]) (pc' := 110) K at_108 rfl rfl ?_
    refine oW.lload (pc' := 112) K at_110 rfl rfl ?_
    refine oW.lload (pc' := 114) K at_112 rfl rfl ?_
    obtain ⟨v114, ev114⟩ : ∃ z : Int64, z = (0 : Int64) + v49 := ⟨_, rfl⟩
    refine oW.ladd (pc' := 115) K at_114 ev114 rfl ?_
    have tv114 := oLadd ev114 (by first | omega | (have oTs' := oTs; omega) | (simp only [Int32.reduceToInt, Int64.reduceToInt]; omega))
    try simp only [Int32.reduceToInt, Int64.reduceToInt] at tv114
    refine oW.lstore (Ls' := #[.val (.int p0), .val (.int p1), .val (.long q2), .second, .val (.long q3), .second, .val (.long q4), .second, .val (.long q5), .second, .val (.int (1 : Int32)), .val (.long v7), .second, .val (.long v15), .second, .val (.long v21), .second, .val (.long v27), .second, .val (.long v36), .second, .val (.long v42), .second, .val (.long v49), .second, .val (.long v56), .second, .val (.long v63), .second, .val (.ref a68), .val (.ref a74), .val (.long v107), .second, .val (.long v114), .second, .unset, .unset, .unset, .unset]) (pc' := 117) K at_115 rfl rfl ?_
    refine oW.iload (pc' := 119) K at_117 rfl rfl ?_
    refine oW.iconst (v := (1 : Int32)) (pc' := 120) K at_119 (by decide) rfl ?_
    refine oW.icmp_le (pc' := 151) (pc3 := 123) K at_120 (by decide) (by decide) rfl (fun _ => ?_) (fun q => absurd q (by decide))
    refine oW.iload (pc' := 153) K at_151 rfl rfl ?_
    refine oW.iconst (v := (2 : Int32)) (pc' := 154) K at_153 (by decide) rfl ?_
    refine oW.icmp_le (pc' := 185) (pc3 := 157) K at_154 (by decide) (by decide) rfl (fun _ => ?_) (fun q => absurd q (by decide))
    refine oW.iloadN (pc' := 186) K at_185 rfl rfl ?_
    obtain ⟨v186, ev186⟩ : ∃ z : UInt64, z = FP.i2d p1 := ⟨_, rfl⟩
    have lv186 : v186 = FP.l2d p1.toInt64 := ev186.trans (i2d_w _)
    refine oW.i2d (pc' := 187) K at_186 ev186 rfl ?_
    refine oW.aload (pc' := 189) K at_187 rfl rfl rfl ?_
    refine oW.aload (pc' := 191) K at_189 rfl rfl rfl ?_
    have bp1 := oB32 p1
    have tp1 : p1.toInt64.toInt = p1.toInt := oI2L rfl
    obtain ⟨X, hX⟩ := oI64 (p1.toInt - v107.toInt) (by first | omega | (have oTs' := oTs; omega) | (simp only [Int32.reduceToInt, Int64.reduceToInt]; omega))
    have aq0 := ev94
    have bq0 := ev101
    rw [lv186, aq0, bq0]
    refine oW.callS (argsL := [(.double (FP.l2d p1.toInt64)), (.ref a68), (.ref a74)]) (S := []) (rm := ({ frames := 0, cells := 1, slots := 1, locals := 0 } : Room)) (W := 0) (cells' := 3) (slots' := 3) (pc' := 194) K (hw _ (List.mem_of_getElem? (i := 1) rfl)) (hw _ (List.mem_of_getElem? (i := 2) rfl)) (hw _ (List.mem_of_getElem? (i := 3) rfl)) (hw _ (List.mem_of_getElem? (i := 4) rfl)) (by decide) (own_sp1 hw a68 a74 p1.toInt64 X v114 (by omega) v7 v27 v49 (by omega) (by omega) (by omega) (by first | omega | (have oTs' := oTs; omega) | (simp only [Int32.reduceToInt, Int64.reduceToInt]; omega)) (by first | omega | (have oTs' := oTs; omega) | (simp only [Int32.reduceToInt, Int64.reduceToInt]; omega))) (lenOf pd_0 rfl) at_191 rfl rfl (Nat.le_of_eq rfl) (by decide) (by decide) (by decide) (by decide) rfl rfl rfl ?_
    rintro _ _ ⟨c, y0, rfl, gy0, ny0, rfl⟩
    refine oW.astore (Ls' := #[.val (.int p0), .val (.int p1), .val (.long q2), .second, .val (.long q3), .second, .val (.long q4), .second, .val (.long q5), .second, .val (.int (1 : Int32)), .val (.long v7), .second, .val (.long v15), .second, .val (.long v21), .second, .val (.long v27), .second, .val (.long v36), .second, .val (.long v42), .second, .val (.long v49), .second, .val (.long v56), .second, .val (.long v63), .second, .val (.ref a68), .val (.ref a74), .val (.long v107), .second, .val (.long v114), .second, .val (.ref c), .unset, .unset, .unset]) (pc' := 196) K at_194 rfl rfl rfl ?_
    refine oW.aload (pc' := 198) K at_196 rfl rfl rfl ?_
    refine oW.ifnullNo (pc' := 201) K at_198 rfl ?_
    refine oW.aload (pc' := 203) K at_201 rfl rfl rfl ?_
    refine oW.alen (i := 2) (v := (1 : Int32)) (pc' := 204) K at_203 rfl rfl rfl ?_
    refine oW.iload (pc' := 206) K at_204 rfl rfl ?_
    refine oW.icmp_eq (pc' := 211) (pc3 := 209) K at_206 (by decide) (by decide) rfl (fun _ => ?_) (fun q => absurd q (by decide))
    refine oW.iload (pc' := 213) K at_211 rfl rfl ?_
    refine oW.if_ne (pc' := 218) (pc3 := 216) K at_213 (by decide) (by decide) rfl (fun _ => ?_) (fun q => absurd q (by decide))
    refine oW.iloadN (pc' := 219) K at_218 rfl rfl ?_
    obtain ⟨v219, ev219⟩ : ∃ z : Int64, z = p1.toInt64 := ⟨_, rfl⟩
    refine oW.i2l (pc' := 220) K at_219 ev219 rfl ?_
    have tv219 : v219.toInt = _ := oI2L ev219
    refine oW.lload (pc' := 222) K at_220 rfl rfl ?_
    obtain ⟨v222, ev222⟩ : ∃ z : Int64, z = v219 - v107 := ⟨_, rfl⟩
    refine oW.lsub (pc' := 223) K at_222 ev222 rfl ?_
    have tv222 := oLsub ev222 (by first | omega | (have oTs' := oTs; omega) | (simp only [Int32.reduceToInt, Int64.reduceToInt]; omega))
    try simp only [Int32.reduceToInt, Int64.reduceToInt] at tv222
    obtain ⟨v223, ev223⟩ : ∃ z : UInt64, z = FP.l2d v222 := ⟨_, rfl⟩
    refine oW.l2d (pc' := 224) K at_223 ev223 rfl ?_
    refine oW.dstore (Ls' := #[.val (.int p0), .val (.int p1), .val (.long q2), .second, .val (.long q3), .second, .val (.long q4), .second, .val (.long q5), .second, .val (.int (1 : Int32)), .val (.long v7), .second, .val (.long v15), .second, .val (.long v21), .second, .val (.long v27), .second, .val (.long v36), .second, .val (.long v42), .second, .val (.long v49), .second, .val (.long v56), .second, .val (.long v63), .second, .val (.ref a68), .val (.ref a74), .val (.long v107), .second, .val (.long v114), .second, .val (.ref c), .val (.double v223), .second, .unset]) (pc' := 226) K at_224 rfl rfl ?_
    refine oW.aload (pc' := 228) K at_226 rfl rfl rfl ?_
    refine oW.iconst (v := (0 : Int32)) (pc' := 229) K at_228 (by decide) rfl ?_
    refine oW.daload (i := 2) (k := 0) (pc' := 230) K at_229 rfl rfl (by decide) rfl rfl ?_
    refine oW.dload (pc' := 232) K at_230 rfl rfl ?_
    refine oW.lload (pc' := 234) K at_232 rfl rfl ?_
    refine oW.iload (pc' := 236) K at_234 rfl rfl ?_
    refine oW.lload (pc' := 238) K at_236 rfl rfl ?_
    refine oW.lload (pc' := 240) K at_238 rfl rfl ?_
    have eX : X = v222 := oEq64.mpr (by omega)
    rw [eX] at gy0
    refine oW.callS (argsL := [(.double v223), (.long v114), (.int (1 : Int32)), (.long v27), (.long v49)]) (S := [(.double y0)]) (rm := ({ frames := 0, cells := 0, slots := 0, locals := 0 } : Room)) (W := 2) (cells' := 3) (slots' := 3) (pc' := 243) K (hw _ (List.mem_of_getElem? (i := 5) rfl)) (hw _ (List.mem_of_getElem? (i := 6) rfl)) (hw _ (List.mem_of_getElem? (i := 7) rfl)) (hw _ (List.mem_of_getElem? (i := 8) rfl)) (by decide) (by rw [ev223]; exact own_ex1 hw v222 v114 v27 v49 _) (lenOf pd_1 rfl) at_240 rfl rfl (Nat.le_of_eq rfl) (by decide) (by decide) (by decide) (by decide) rfl rfl rfl ?_
    rintro _ _ ⟨x0, rfl, gx0, rfl⟩
    obtain ⟨v243, ev243⟩ : ∃ z : Int32, z = cmpValue (FP.dcmp y0 x0) .l := ⟨_, rfl⟩
    refine oW.dcmp (pc' := 244) K at_243 ev243 rfl ?_
    refine oW.if_ne (pc' := 251) (pc3 := 247) K at_244 (by decide) (by decide) rfl (fun q => absurd (oSame ev243 (gy0.trans gx0.symm) ny0) q) (fun c244 => ?_)
    refine oW.iconst (v := (1 : Int32)) (pc' := 248) K at_247 (by decide) rfl ?_
    refine oW.goto (pc' := 252) K at_248 (by decide) (by decide) ?_
    refine oW.istore (Ls' := #[.val (.int p0), .val (.int p1), .val (.long q2), .second, .val (.long q3), .second, .val (.long q4), .second, .val (.long q5), .second, .val (.int (1 : Int32)), .val (.long v7), .second, .val (.long v15), .second, .val (.long v21), .second, .val (.long v27), .second, .val (.long v36), .second, .val (.long v42), .second, .val (.long v49), .second, .val (.long v56), .second, .val (.long v63), .second, .val (.ref a68), .val (.ref a74), .val (.long v107), .second, .val (.long v114), .second, .val (.ref c), .val (.double v223), .second, .val (.int (1 : Int32))]) (pc' := 254) K at_252 rfl rfl ?_
    refine oW.iload (pc' := 256) K at_254 rfl rfl ?_
    refine oW.iconst (v := (1 : Int32)) (pc' := 257) K at_256 (by decide) rfl ?_
    refine oW.icmp_le (pc' := 293) (pc3 := 260) K at_257 (by decide) (by decide) rfl (fun _ => ?_) (fun q => absurd q (by decide))
    refine oW.iload (pc' := 295) K at_293 rfl rfl ?_
    refine oW.iconst (v := (2 : Int32)) (pc' := 296) K at_295 (by decide) rfl ?_
    refine oW.icmp_le (pc' := 332) (pc3 := 299) K at_296 (by decide) (by decide) rfl (fun _ => ?_) (fun q => absurd q (by decide))
    refine oW.iload (pc' := 334) K at_332 rfl rfl ?_
    exact oW.retB K rfl at_334 (by decide) (by decide) ⟨_, rfl, rfl⟩
  · subst hv2
    refine oW.lloadN (pc' := 6) K at_5 rfl rfl ?_
    obtain ⟨v6, ev6⟩ : ∃ z : Int32, z = q2.toInt32 := ⟨_, rfl⟩
    refine oW.l2i (pc' := 7) K at_6 ev6 rfl ?_
    have tv6 := oB32 v6
    obtain ⟨v7, ev7⟩ : ∃ z : Int64, z = v6.toInt64 := ⟨_, rfl⟩
    refine oW.i2l (pc' := 8) K at_7 ev7 rfl ?_
    have tv7 : v7.toInt = _ := oI2L ev7
    refine oW.lstore (Ls' := #[.val (.int p0), .val (.int p1), .val (.long q2), .second, .val (.long q3), .second, .val (.long q4), .second, .val (.long q5), .second, .val (.int (2 : Int32)), .val (.long v7), .second, .unset, .unset, .unset, .unset, .unset, .unset, .unset, .unset, .unset, .unset, .unset, .unset, .unset, .unset, .unset, .unset, .unset, .unset, .unset, .unset, .unset, .unset, .unset, .unset, .unset, .unset]) (pc' := 10) K at_8 rfl rfl ?_
    refine oW.lloadN (pc' := 11) K at_10 rfl rfl ?_
    refine oW.bipush (v := (32 : Int32)) (pc' := 13) K at_11 (by decide) rfl ?_
    obtain ⟨v13, ev13⟩ : ∃ z : Int64, z = q2 >>> ((32 : Int32).toInt64 &&& 63) := ⟨_, rfl⟩
    refine oW.lshr (pc' := 14) K at_13 ev13 rfl ?_
    obtain ⟨v14, ev14⟩ : ∃ z : Int32, z = v13.toInt32 := ⟨_, rfl⟩
    refine oW.l2i (pc' := 15) K at_14 ev14 rfl ?_
    have tv14 := oB32 v14
    obtain ⟨v15, ev15⟩ : ∃ z : Int64, z = v14.toInt64 := ⟨_, rfl⟩
    refine oW.i2l (pc' := 16) K at_15 ev15 rfl ?_
    have tv15 : v15.toInt = _ := oI2L ev15
    refine oW.lstore (Ls' := #[.val (.int p0), .val (.int p1), .val (.long q2), .second, .val (.long q3), .second, .val (.long q4), .second, .val (.long q5), .second, .val (.int (2 : Int32)), .val (.long v7), .second, .val (.long v15), .second, .unset, .unset, .unset, .unset, .unset, .unset, .unset, .unset, .unset, .unset, .unset, .unset, .unset, .unset, .unset, .unset, .unset, .unset, .unset, .unset, .unset, .unset, .unset, .unset]) (pc' := 18) K at_16 rfl rfl ?_
    refine oW.lload (pc' := 20) K at_18 rfl rfl ?_
    obtain ⟨v20, ev20⟩ : ∃ z : Int32, z = q3.toInt32 := ⟨_, rfl⟩
    refine oW.l2i (pc' := 21) K at_20 ev20 rfl ?_
    have tv20 := oB32 v20
    obtain ⟨v21, ev21⟩ : ∃ z : Int64, z = v20.toInt64 := ⟨_, rfl⟩
    refine oW.i2l (pc' := 22) K at_21 ev21 rfl ?_
    have tv21 : v21.toInt = _ := oI2L ev21
    refine oW.lstore (Ls' := #[.val (.int p0), .val (.int p1), .val (.long q2), .second, .val (.long q3), .second, .val (.long q4), .second, .val (.long q5), .second, .val (.int (2 : Int32)), .val (.long v7), .second, .val (.long v15), .second, .val (.long v21), .second, .unset, .unset, .unset, .unset, .unset, .unset, .unset, .unset, .unset, .unset, .unset, .unset, .unset, .unset, .unset, .unset, .unset, .unset, .unset, .unset, .unset, .unset]) (pc' := 24) K at_22 rfl rfl ?_
    refine oW.lload (pc' := 26) K at_24 rfl rfl ?_
    obtain ⟨v26, ev26⟩ : ∃ z : Int32, z = q4.toInt32 := ⟨_, rfl⟩
    refine oW.l2i (pc' := 27) K at_26 ev26 rfl ?_
    have tv26 := oB32 v26
    obtain ⟨v27, ev27⟩ : ∃ z : Int64, z = v26.toInt64 := ⟨_, rfl⟩
    refine oW.i2l (pc' := 28) K at_27 ev27 rfl ?_
    have tv27 : v27.toInt = _ := oI2L ev27
    refine oW.lstore (Ls' := #[.val (.int p0), .val (.int p1), .val (.long q2), .second, .val (.long q3), .second, .val (.long q4), .second, .val (.long q5), .second, .val (.int (2 : Int32)), .val (.long v7), .second, .val (.long v15), .second, .val (.long v21), .second, .val (.long v27), .second, .unset, .unset, .unset, .unset, .unset, .unset, .unset, .unset, .unset, .unset, .unset, .unset, .unset, .unset, .unset, .unset, .unset, .unset, .unset, .unset]) (pc' := 30) K at_28 rfl rfl ?_
    refine oW.lload (pc' := 32) K at_30 rfl rfl ?_
    refine oW.bipush (v := (32 : Int32)) (pc' := 34) K at_32 (by decide) rfl ?_
    obtain ⟨v34, ev34⟩ : ∃ z : Int64, z = q4 >>> ((32 : Int32).toInt64 &&& 63) := ⟨_, rfl⟩
    refine oW.lshr (pc' := 35) K at_34 ev34 rfl ?_
    obtain ⟨v35, ev35⟩ : ∃ z : Int32, z = v34.toInt32 := ⟨_, rfl⟩
    refine oW.l2i (pc' := 36) K at_35 ev35 rfl ?_
    have tv35 := oB32 v35
    obtain ⟨v36, ev36⟩ : ∃ z : Int64, z = v35.toInt64 := ⟨_, rfl⟩
    refine oW.i2l (pc' := 37) K at_36 ev36 rfl ?_
    have tv36 : v36.toInt = _ := oI2L ev36
    refine oW.lstore (Ls' := #[.val (.int p0), .val (.int p1), .val (.long q2), .second, .val (.long q3), .second, .val (.long q4), .second, .val (.long q5), .second, .val (.int (2 : Int32)), .val (.long v7), .second, .val (.long v15), .second, .val (.long v21), .second, .val (.long v27), .second, .val (.long v36), .second, .unset, .unset, .unset, .unset, .unset, .unset, .unset, .unset, .unset, .unset, .unset, .unset, .unset, .unset, .unset, .unset, .unset, .unset]) (pc' := 39) K at_37 rfl rfl ?_
    refine oW.lload (pc' := 41) K at_39 rfl rfl ?_
    obtain ⟨v41, ev41⟩ : ∃ z : Int32, z = q5.toInt32 := ⟨_, rfl⟩
    refine oW.l2i (pc' := 42) K at_41 ev41 rfl ?_
    have tv41 := oB32 v41
    obtain ⟨v42, ev42⟩ : ∃ z : Int64, z = v41.toInt64 := ⟨_, rfl⟩
    refine oW.i2l (pc' := 43) K at_42 ev42 rfl ?_
    have tv42 : v42.toInt = _ := oI2L ev42
    refine oW.lstore (Ls' := #[.val (.int p0), .val (.int p1), .val (.long q2), .second, .val (.long q3), .second, .val (.long q4), .second, .val (.long q5), .second, .val (.int (2 : Int32)), .val (.long v7), .second, .val (.long v15), .second, .val (.long v21), .second, .val (.long v27), .second, .val (.long v36), .second, .val (.long v42), .second, .unset, .unset, .unset, .unset, .unset, .unset, .unset, .unset, .unset, .unset, .unset, .unset, .unset, .unset, .unset, .unset]) (pc' := 45) K at_43 rfl rfl ?_
    refine oW.lload (pc' := 47) K at_45 rfl rfl ?_
    refine oW.lload (pc' := 49) K at_47 rfl rfl ?_
    obtain ⟨v49, ev49⟩ : ∃ z : Int64, z = v7 - v27 := ⟨_, rfl⟩
    refine oW.lsub (pc' := 50) K at_49 ev49 rfl ?_
    have tv49 := oLsub ev49 (by first | omega | (have oTs' := oTs; omega) | (simp only [Int32.reduceToInt, Int64.reduceToInt]; omega))
    try simp only [Int32.reduceToInt, Int64.reduceToInt] at tv49
    refine oW.lstore (Ls' := #[.val (.int p0), .val (.int p1), .val (.long q2), .second, .val (.long q3), .second, .val (.long q4), .second, .val (.long q5), .second, .val (.int (2 : Int32)), .val (.long v7), .second, .val (.long v15), .second, .val (.long v21), .second, .val (.long v27), .second, .val (.long v36), .second, .val (.long v42), .second, .val (.long v49), .second, .unset, .unset, .unset, .unset, .unset, .unset, .unset, .unset, .unset, .unset, .unset, .unset, .unset, .unset]) (pc' := 52) K at_50 rfl rfl ?_
    refine oW.lload (pc' := 54) K at_52 rfl rfl ?_
    refine oW.lload (pc' := 56) K at_54 rfl rfl ?_
    obtain ⟨v56, ev56⟩ : ∃ z : Int64, z = v15 - v36 := ⟨_, rfl⟩
    refine oW.lsub (pc' := 57) K at_56 ev56 rfl ?_
    have tv56 := oLsub ev56 (by first | omega | (have oTs' := oTs; omega) | (simp only [Int32.reduceToInt, Int64.reduceToInt]; omega))
    try simp only [Int32.reduceToInt, Int64.reduceToInt] at tv56
    refine oW.lstore (Ls' := #[.val (.int p0), .val (.int p1), .val (.long q2), .second, .val (.long q3), .second, .val (.long q4), .second, .val (.long q5), .second, .val (.int (2 : Int32)), .val (.long v7), .second, .val (.long v15), .second, .val (.long v21), .second, .val (.long v27), .second, .val (.long v36), .second, .val (.long v42), .second, .val (.long v49), .second, .val (.long v56), .second, .unset, .unset, .unset, .unset, .unset, .unset, .unset, .unset, .unset, .unset, .unset, .unset]) (pc' := 59) K at_57 rfl rfl ?_
    refine oW.lload (pc' := 61) K at_59 rfl rfl ?_
    refine oW.lload (pc' := 63) K at_61 rfl rfl ?_
    obtain ⟨v63, ev63⟩ : ∃ z : Int64, z = v21 - v42 := ⟨_, rfl⟩
    refine oW.lsub (pc' := 64) K at_63 ev63 rfl ?_
    have tv63 := oLsub ev63 (by first | omega | (have oTs' := oTs; omega) | (simp only [Int32.reduceToInt, Int64.reduceToInt]; omega))
    try simp only [Int32.reduceToInt, Int64.reduceToInt] at tv63
    refine oW.lstore (Ls' := #[.val (.int p0), .val (.int p1), .val (.long q2), .second, .val (.long q3), .second, .val (.long q4), .second, .val (.long q5), .second, .val (.int (2 : Int32)), .val (.long v7), .second, .val (.long v15), .second, .val (.long v21), .second, .val (.long v27), .second, .val (.long v36), .second, .val (.long v42), .second, .val (.long v49), .second, .val (.long v56), .second, .val (.long v63), .second, .unset, .unset, .unset, .unset, .unset, .unset, .unset, .unset, .unset, .unset]) (pc' := 66) K at_64 rfl rfl ?_
    refine oW.iload (pc' := 68) K at_66 rfl rfl ?_
    refine oW.newarr (n := 2) (cells' := 1) (slots' := 2) (dsf := fun z => [(z, .inl (.double, [(.double (0 : UInt64)), (.double (0 : UInt64))]))]) (pc' := 70) K (hw _ (List.mem_of_getElem? (i := 0) rfl)) at_68 rfl (by decide) (by decide) (by decide) (by decide) rfl rfl (fun _ => rfl) rfl ?_
    intro a68 ha68
    refine oW.astore (Ls' := #[.val (.int p0), .val (.int p1), .val (.long q2), .second, .val (.long q3), .second, .val (.long q4), .second, .val (.long q5), .second, .val (.int (2 : Int32)), .val (.long v7), .second, .val (.long v15), .second, .val (.long v21), .second, .val (.long v27), .second, .val (.long v36), .second, .val (.long v42), .second, .val (.long v49), .second, .val (.long v56), .second, .val (.long v63), .second, .val (.ref a68), .unset, .unset, .unset, .unset, .unset, .unset, .unset, .unset, .unset]) (pc' := 72) K at_70 rfl rfl rfl ?_
    refine oW.iload (pc' := 74) K at_72 rfl rfl ?_
    refine oW.newarr (n := 2) (cells' := 2) (slots' := 4) (dsf := fun z => [(a68, .inl (.double, [(.double (0 : UInt64)), (.double (0 : UInt64))])), (z, .inl (.double, [(.double (0 : UInt64)), (.double (0 : UInt64))]))]) (pc' := 76) K (hw _ (List.mem_of_getElem? (i := 0) rfl)) at_74 rfl (by decide) (by decide) (by decide) (by decide) rfl rfl (fun _ => rfl) rfl ?_
    intro a74 ha74
    refine oW.astore (Ls' := #[.val (.int p0), .val (.int p1), .val (.long q2), .second, .val (.long q3), .second, .val (.long q4), .second, .val (.long q5), .second, .val (.int (2 : Int32)), .val (.long v7), .second, .val (.long v15), .second, .val (.long v21), .second, .val (.long v27), .second, .val (.long v36), .second, .val (.long v42), .second, .val (.long v49), .second, .val (.long v56), .second, .val (.long v63), .second, .val (.ref a68), .val (.ref a74), .unset, .unset, .unset, .unset, .unset, .unset, .unset, .unset]) (pc' := 78) K at_76 rfl rfl rfl ?_
    refine oW.lconst (v := (0 : Int64)) (pc' := 79) K at_78 (by decide) rfl ?_
    refine oW.lstore (Ls' := #[.val (.int p0), .val (.int p1), .val (.long q2), .second, .val (.long q3), .second, .val (.long q4), .second, .val (.long q5), .second, .val (.int (2 : Int32)), .val (.long v7), .second, .val (.long v15), .second, .val (.long v21), .second, .val (.long v27), .second, .val (.long v36), .second, .val (.long v42), .second, .val (.long v49), .second, .val (.long v56), .second, .val (.long v63), .second, .val (.ref a68), .val (.ref a74), .val (.long (0 : Int64)), .second, .unset, .unset, .unset, .unset, .unset, .unset]) (pc' := 81) K at_79 rfl rfl ?_
    refine oW.lconst (v := (0 : Int64)) (pc' := 82) K at_81 (by decide) rfl ?_
    refine oW.lstore (Ls' := #[.val (.int p0), .val (.int p1), .val (.long q2), .second, .val (.long q3), .second, .val (.long q4), .second, .val (.long q5), .second, .val (.int (2 : Int32)), .val (.long v7), .second, .val (.long v15), .second, .val (.long v21), .second, .val (.long v27), .second, .val (.long v36), .second, .val (.long v42), .second, .val (.long v49), .second, .val (.long v56), .second, .val (.long v63), .second, .val (.ref a68), .val (.ref a74), .val (.long (0 : Int64)), .second, .val (.long (0 : Int64)), .second, .unset, .unset, .unset, .unset]) (pc' := 84) K at_82 rfl rfl ?_
    refine oW.iload (pc' := 86) K at_84 rfl rfl ?_
    refine oW.if_le (pc' := 117) (pc3 := 89) K at_86 (by decide) (by decide) rfl (fun q => absurd q (by decide)) (fun _ => ?_)
    refine oW.aload (pc' := 91) K at_89 rfl rfl rfl ?_
    refine oW.iconst (v := (0 : Int32)) (pc' := 92) K at_91 (by decide) rfl ?_
    refine oW.lload (pc' := 94) K at_92 rfl rfl ?_
    obtain ⟨v94, ev94⟩ : ∃ z : UInt64, z = FP.l2d v7 := ⟨_, rfl⟩
    refine oW.l2d (pc' := 95) K at_94 ev94 rfl ?_
    refine oW.dastore (i := 0) (k := 0) (ds' := [(a68, .inl (.double, [(.double v94), (.double (0 : UInt64))])), (a74, .inl (.double, [(.double (0 : UInt64)), (.double (0 : UInt64))]))]) (pc' := 96) K at_95 rfl rfl (by decide) (Nat.lt_of_sub_eq_succ rfl) rfl rfl ?_
    refine oW.aload (pc' := 98) K at_96 rfl rfl rfl ?_
    refine oW.iconst (v := (0 : Int32)) (pc' := 99) K at_98 (by decide) rfl ?_
    refine oW.lload (pc' := 101) K at_99 rfl rfl ?_
    obtain ⟨v101, ev101⟩ : ∃ z : UInt64, z = FP.l2d v27 := ⟨_, rfl⟩
    refine oW.l2d (pc' := 102) K at_101 ev101 rfl ?_
    refine oW.dastore (i := 1) (k := 0) (ds' := [(a68, .inl (.double, [(.double v94), (.double (0 : UInt64))])), (a74, .inl (.double, [(.double v101), (.double (0 : UInt64))]))]) (pc' := 103) K at_102 rfl rfl (by decide) (Nat.lt_of_sub_eq_succ rfl) rfl rfl ?_
    refine oW.lload (pc' := 105) K at_103 rfl rfl ?_
    refine oW.lload (pc' := 107) K at_105 rfl rfl ?_
    obtain ⟨v107, ev107⟩ : ∃ z : Int64, z = (0 : Int64) + v27 := ⟨_, rfl⟩
    refine oW.ladd (pc' := 108) K at_107 ev107 rfl ?_
    have tv107 := oLadd ev107 (by first | omega | (have oTs' := oTs; omega) | (simp only [Int32.reduceToInt, Int64.reduceToInt]; omega))
    try simp only [Int32.reduceToInt, Int64.reduceToInt] at tv107
    refine oW.lstore (Ls' := #[.val (.int p0), .val (.int p1), .val (.long q2), .second, .val (.long q3), .second, .val (.long q4), .second, .val (.long q5), .second, .val (.int (2 : Int32)), .val (.long v7), .second, .val (.long v15), .second, .val (.long v21), .second, .val (.long v27), .second, .val (.long v36), .second, .val (.long v42), .second, .val (.long v49), .second, .val (.long v56), .second, .val (.long v63), .second, .val (.ref a68), .val (.ref a74), .val (.long v107), .second, .val (.long (0 : Int64)), .second, .unset, .unset, .unset, .unset]) (pc' := 110) K at_108 rfl rfl ?_
    refine oW.lload (pc' := 112) K at_110 rfl rfl ?_
    refine oW.lload (pc' := 114) K at_112 rfl rfl ?_
    obtain ⟨v114, ev114⟩ : ∃ z : Int64, z = (0 : Int64) + v49 := ⟨_, rfl⟩
    refine oW.ladd (pc' := 115) K at_114 ev114 rfl ?_
    have tv114 := oLadd ev114 (by first | omega | (have oTs' := oTs; omega) | (simp only [Int32.reduceToInt, Int64.reduceToInt]; omega))
    try simp only [Int32.reduceToInt, Int64.reduceToInt] at tv114
    refine oW.lstore (Ls' := #[.val (.int p0), .val (.int p1), .val (.long q2), .second, .val (.long q3), .second, .val (.long q4), .second, .val (.long q5), .second, .val (.int (2 : Int32)), .val (.long v7), .second, .val (.long v15), .second, .val (.long v21), .second, .val (.long v27), .second, .val (.long v36), .second, .val (.long v42), .second, .val (.long v49), .second, .val (.long v56), .second, .val (.long v63), .second, .val (.ref a68), .val (.ref a74), .val (.long v107), .second, .val (.long v114), .second, .unset, .unset, .unset, .unset]) (pc' := 117) K at_115 rfl rfl ?_
    refine oW.iload (pc' := 119) K at_117 rfl rfl ?_
    refine oW.iconst (v := (1 : Int32)) (pc' := 120) K at_119 (by decide) rfl ?_
    refine oW.icmp_le (pc' := 151) (pc3 := 123) K at_120 (by decide) (by decide) rfl (fun q => absurd q (by decide)) (fun _ => ?_)
    refine oW.aload (pc' := 125) K at_123 rfl rfl rfl ?_
    refine oW.iconst (v := (1 : Int32)) (pc' := 126) K at_125 (by decide) rfl ?_
    refine oW.lload (pc' := 128) K at_126 rfl rfl ?_
    obtain ⟨v128, ev128⟩ : ∃ z : UInt64, z = FP.l2d v15 := ⟨_, rfl⟩
    refine oW.l2d (pc' := 129) K at_128 ev128 rfl ?_
    refine oW.dastore (i := 0) (k := 1) (ds' := [(a68, .inl (.double, [(.double v94), (.double v128)])), (a74, .inl (.double, [(.double v101), (.double (0 : UInt64))]))]) (pc' := 130) K at_129 rfl rfl (by decide) (Nat.lt_of_sub_eq_succ rfl) rfl rfl ?_
    refine oW.aload (pc' := 132) K at_130 rfl rfl rfl ?_
    refine oW.iconst (v := (1 : Int32)) (pc' := 133) K at_132 (by decide) rfl ?_
    refine oW.lload (pc' := 135) K at_133 rfl rfl ?_
    obtain ⟨v135, ev135⟩ : ∃ z : UInt64, z = FP.l2d v36 := ⟨_, rfl⟩
    refine oW.l2d (pc' := 136) K at_135 ev135 rfl ?_
    refine oW.dastore (i := 1) (k := 1) (ds' := [(a68, .inl (.double, [(.double v94), (.double v128)])), (a74, .inl (.double, [(.double v101), (.double v135)]))]) (pc' := 137) K at_136 rfl rfl (by decide) (Nat.lt_of_sub_eq_succ rfl) rfl rfl ?_
    refine oW.lload (pc' := 139) K at_137 rfl rfl ?_
    refine oW.lload (pc' := 141) K at_139 rfl rfl ?_
    obtain ⟨v141, ev141⟩ : ∃ z : Int64, z = v107 + v36 := ⟨_, rfl⟩
    refine oW.ladd (pc' := 142) K at_141 ev141 rfl ?_
    have tv141 := oLadd ev141 (by first | omega | (have oTs' := oTs; omega) | (simp only [Int32.reduceToInt, Int64.reduceToInt]; omega))
    try simp only [Int32.reduceToInt, Int64.reduceToInt] at tv141
    refine oW.lstore (Ls' := #[.val (.int p0), .val (.int p1), .val (.long q2), .second, .val (.long q3), .second, .val (.long q4), .second, .val (.long q5), .second, .val (.int (2 : Int32)), .val (.long v7), .second, .val (.long v15), .second, .val (.long v21), .second, .val (.long v27), .second, .val (.long v36), .second, .val (.long v42), .second, .val (.long v49), .second, .val (.long v56), .second, .val (.long v63), .second, .val (.ref a68), .val (.ref a74), .val (.long v141), .second, .val (.long v114), .second, .unset, .unset, .unset, .unset]) (pc' := 144) K at_142 rfl rfl ?_
    refine oW.lload (pc' := 146) K at_144 rfl rfl ?_
    refine oW.lload (pc' := 148) K at_146 rfl rfl ?_
    obtain ⟨v148, ev148⟩ : ∃ z : Int64, z = v114 + v56 := ⟨_, rfl⟩
    refine oW.ladd (pc' := 149) K at_148 ev148 rfl ?_
    have tv148 := oLadd ev148 (by first | omega | (have oTs' := oTs; omega) | (simp only [Int32.reduceToInt, Int64.reduceToInt]; omega))
    try simp only [Int32.reduceToInt, Int64.reduceToInt] at tv148
    refine oW.lstore (Ls' := #[.val (.int p0), .val (.int p1), .val (.long q2), .second, .val (.long q3), .second, .val (.long q4), .second, .val (.long q5), .second, .val (.int (2 : Int32)), .val (.long v7), .second, .val (.long v15), .second, .val (.long v21), .second, .val (.long v27), .second, .val (.long v36), .second, .val (.long v42), .second, .val (.long v49), .second, .val (.long v56), .second, .val (.long v63), .second, .val (.ref a68), .val (.ref a74), .val (.long v141), .second, .val (.long v148), .second, .unset, .unset, .unset, .unset]) (pc' := 151) K at_149 rfl rfl ?_
    refine oW.iload (pc' := 153) K at_151 rfl rfl ?_
    refine oW.iconst (v := (2 : Int32)) (pc' := 154) K at_153 (by decide) rfl ?_
    refine oW.icmp_le (pc' := 185) (pc3 := 157) K at_154 (by decide) (by decide) rfl (fun _ => ?_) (fun q => absurd q (by decide))
    refine oW.iloadN (pc' := 186) K at_185 rfl rfl ?_
    obtain ⟨v186, ev186⟩ : ∃ z : UInt64, z = FP.i2d p1 := ⟨_, rfl⟩
    have lv186 : v186 = FP.l2d p1.toInt64 := ev186.trans (i2d_w _)
    refine oW.i2d (pc' := 187) K at_186 ev186 rfl ?_
    refine oW.aload (pc' := 189) K at_187 rfl rfl rfl ?_
    refine oW.aload (pc' := 191) K at_189 rfl rfl rfl ?_
    have bp1 := oB32 p1
    have tp1 : p1.toInt64.toInt = p1.toInt := oI2L rfl
    obtain ⟨X, hX⟩ := oI64 (p1.toInt - v141.toInt) (by first | omega | (have oTs' := oTs; omega) | (simp only [Int32.reduceToInt, Int64.reduceToInt]; omega))
    have aq0 := ev94
    have bq0 := ev101
    have aq1 := ev128
    have bq1 := ev135
    rw [lv186, aq0, bq0, aq1, bq1]
    refine oW.callS (argsL := [(.double (FP.l2d p1.toInt64)), (.ref a68), (.ref a74)]) (S := []) (rm := ({ frames := 0, cells := 1, slots := 2, locals := 0 } : Room)) (W := 0) (cells' := 3) (slots' := 6) (pc' := 194) K (hw _ (List.mem_of_getElem? (i := 1) rfl)) (hw _ (List.mem_of_getElem? (i := 2) rfl)) (hw _ (List.mem_of_getElem? (i := 3) rfl)) (hw _ (List.mem_of_getElem? (i := 4) rfl)) (by decide) (own_sp2 hw a68 a74 p1.toInt64 X v148 (by omega) v7 v27 v49 (by omega) (by omega) (by omega) v15 v36 v56 (by omega) (by omega) (by omega) (by first | omega | (have oTs' := oTs; omega) | (simp only [Int32.reduceToInt, Int64.reduceToInt]; omega)) (by first | omega | (have oTs' := oTs; omega) | (simp only [Int32.reduceToInt, Int64.reduceToInt]; omega))) (lenOf pd_0 rfl) at_191 rfl rfl (Nat.le_of_eq rfl) (by decide) (by decide) (by decide) (by decide) rfl rfl rfl ?_
    rintro _ _ ⟨c, y0, y1, rfl, gy0, ny0, gy1, ny1, rfl⟩
    refine oW.astore (Ls' := #[.val (.int p0), .val (.int p1), .val (.long q2), .second, .val (.long q3), .second, .val (.long q4), .second, .val (.long q5), .second, .val (.int (2 : Int32)), .val (.long v7), .second, .val (.long v15), .second, .val (.long v21), .second, .val (.long v27), .second, .val (.long v36), .second, .val (.long v42), .second, .val (.long v49), .second, .val (.long v56), .second, .val (.long v63), .second, .val (.ref a68), .val (.ref a74), .val (.long v141), .second, .val (.long v148), .second, .val (.ref c), .unset, .unset, .unset]) (pc' := 196) K at_194 rfl rfl rfl ?_
    refine oW.aload (pc' := 198) K at_196 rfl rfl rfl ?_
    refine oW.ifnullNo (pc' := 201) K at_198 rfl ?_
    refine oW.aload (pc' := 203) K at_201 rfl rfl rfl ?_
    refine oW.alen (i := 2) (v := (2 : Int32)) (pc' := 204) K at_203 rfl rfl rfl ?_
    refine oW.iload (pc' := 206) K at_204 rfl rfl ?_
    refine oW.icmp_eq (pc' := 211) (pc3 := 209) K at_206 (by decide) (by decide) rfl (fun _ => ?_) (fun q => absurd q (by decide))
    refine oW.iload (pc' := 213) K at_211 rfl rfl ?_
    refine oW.if_ne (pc' := 218) (pc3 := 216) K at_213 (by decide) (by decide) rfl (fun _ => ?_) (fun q => absurd q (by decide))
    refine oW.iloadN (pc' := 219) K at_218 rfl rfl ?_
    obtain ⟨v219, ev219⟩ : ∃ z : Int64, z = p1.toInt64 := ⟨_, rfl⟩
    refine oW.i2l (pc' := 220) K at_219 ev219 rfl ?_
    have tv219 : v219.toInt = _ := oI2L ev219
    refine oW.lload (pc' := 222) K at_220 rfl rfl ?_
    obtain ⟨v222, ev222⟩ : ∃ z : Int64, z = v219 - v141 := ⟨_, rfl⟩
    refine oW.lsub (pc' := 223) K at_222 ev222 rfl ?_
    have tv222 := oLsub ev222 (by first | omega | (have oTs' := oTs; omega) | (simp only [Int32.reduceToInt, Int64.reduceToInt]; omega))
    try simp only [Int32.reduceToInt, Int64.reduceToInt] at tv222
    obtain ⟨v223, ev223⟩ : ∃ z : UInt64, z = FP.l2d v222 := ⟨_, rfl⟩
    refine oW.l2d (pc' := 224) K at_223 ev223 rfl ?_
    refine oW.dstore (Ls' := #[.val (.int p0), .val (.int p1), .val (.long q2), .second, .val (.long q3), .second, .val (.long q4), .second, .val (.long q5), .second, .val (.int (2 : Int32)), .val (.long v7), .second, .val (.long v15), .second, .val (.long v21), .second, .val (.long v27), .second, .val (.long v36), .second, .val (.long v42), .second, .val (.long v49), .second, .val (.long v56), .second, .val (.long v63), .second, .val (.ref a68), .val (.ref a74), .val (.long v141), .second, .val (.long v148), .second, .val (.ref c), .val (.double v223), .second, .unset]) (pc' := 226) K at_224 rfl rfl ?_
    refine oW.aload (pc' := 228) K at_226 rfl rfl rfl ?_
    refine oW.iconst (v := (0 : Int32)) (pc' := 229) K at_228 (by decide) rfl ?_
    refine oW.daload (i := 2) (k := 0) (pc' := 230) K at_229 rfl rfl (by decide) rfl rfl ?_
    refine oW.dload (pc' := 232) K at_230 rfl rfl ?_
    refine oW.lload (pc' := 234) K at_232 rfl rfl ?_
    refine oW.iload (pc' := 236) K at_234 rfl rfl ?_
    refine oW.lload (pc' := 238) K at_236 rfl rfl ?_
    refine oW.lload (pc' := 240) K at_238 rfl rfl ?_
    have eX : X = v222 := oEq64.mpr (by omega)
    rw [eX] at gy0
    rw [eX] at gy1
    refine oW.callS (argsL := [(.double v223), (.long v148), (.int (2 : Int32)), (.long v27), (.long v49)]) (S := [(.double y0)]) (rm := ({ frames := 0, cells := 0, slots := 0, locals := 0 } : Room)) (W := 2) (cells' := 3) (slots' := 6) (pc' := 243) K (hw _ (List.mem_of_getElem? (i := 5) rfl)) (hw _ (List.mem_of_getElem? (i := 6) rfl)) (hw _ (List.mem_of_getElem? (i := 7) rfl)) (hw _ (List.mem_of_getElem? (i := 8) rfl)) (by decide) (by rw [ev223]; exact own_ex2 hw v222 v148 v27 v49 _) (lenOf pd_1 rfl) at_240 rfl rfl (Nat.le_of_eq rfl) (by decide) (by decide) (by decide) (by decide) rfl rfl rfl ?_
    rintro _ _ ⟨x0, rfl, gx0, rfl⟩
    obtain ⟨v243, ev243⟩ : ∃ z : Int32, z = cmpValue (FP.dcmp y0 x0) .l := ⟨_, rfl⟩
    refine oW.dcmp (pc' := 244) K at_243 ev243 rfl ?_
    refine oW.if_ne (pc' := 251) (pc3 := 247) K at_244 (by decide) (by decide) rfl (fun q => absurd (oSame ev243 (gy0.trans gx0.symm) ny0) q) (fun c244 => ?_)
    refine oW.iconst (v := (1 : Int32)) (pc' := 248) K at_247 (by decide) rfl ?_
    refine oW.goto (pc' := 252) K at_248 (by decide) (by decide) ?_
    refine oW.istore (Ls' := #[.val (.int p0), .val (.int p1), .val (.long q2), .second, .val (.long q3), .second, .val (.long q4), .second, .val (.long q5), .second, .val (.int (2 : Int32)), .val (.long v7), .second, .val (.long v15), .second, .val (.long v21), .second, .val (.long v27), .second, .val (.long v36), .second, .val (.long v42), .second, .val (.long v49), .second, .val (.long v56), .second, .val (.long v63), .second, .val (.ref a68), .val (.ref a74), .val (.long v141), .second, .val (.long v148), .second, .val (.ref c), .val (.double v223), .second, .val (.int (1 : Int32))]) (pc' := 254) K at_252 rfl rfl ?_
    refine oW.iload (pc' := 256) K at_254 rfl rfl ?_
    refine oW.iconst (v := (1 : Int32)) (pc' := 257) K at_256 (by decide) rfl ?_
    refine oW.icmp_le (pc' := 293) (pc3 := 260) K at_257 (by decide) (by decide) rfl (fun q => absurd q (by decide)) (fun _ => ?_)
    refine oW.iload (pc' := 262) K at_260 rfl rfl ?_
    refine oW.if_eq (pc' := 290) (pc3 := 265) K at_262 (by decide) (by decide) rfl (fun q => absurd q (by decide)) (fun _ => ?_)
    refine oW.aload (pc' := 267) K at_265 rfl rfl rfl ?_
    refine oW.iconst (v := (1 : Int32)) (pc' := 268) K at_267 (by decide) rfl ?_
    refine oW.daload (i := 2) (k := 1) (pc' := 269) K at_268 rfl rfl (by decide) rfl rfl ?_
    refine oW.dload (pc' := 271) K at_269 rfl rfl ?_
    refine oW.lload (pc' := 273) K at_271 rfl rfl ?_
    refine oW.iload (pc' := 275) K at_273 rfl rfl ?_
    refine oW.lload (pc' := 277) K at_275 rfl rfl ?_
    refine oW.lload (pc' := 279) K at_277 rfl rfl ?_
    refine oW.callS (argsL := [(.double v223), (.long v148), (.int (2 : Int32)), (.long v36), (.long v56)]) (S := [(.double y1)]) (rm := ({ frames := 0, cells := 0, slots := 0, locals := 0 } : Room)) (W := 2) (cells' := 3) (slots' := 6) (pc' := 282) K (hw _ (List.mem_of_getElem? (i := 5) rfl)) (hw _ (List.mem_of_getElem? (i := 6) rfl)) (hw _ (List.mem_of_getElem? (i := 7) rfl)) (hw _ (List.mem_of_getElem? (i := 8) rfl)) (by decide) (by rw [ev223]; exact own_ex2 hw v222 v148 v36 v56 _) (lenOf pd_1 rfl) at_279 rfl rfl (Nat.le_of_eq rfl) (by decide) (by decide) (by decide) (by decide) rfl rfl rfl ?_
    rintro _ _ ⟨x1, rfl, gx1, rfl⟩
    obtain ⟨v282, ev282⟩ : ∃ z : Int32, z = cmpValue (FP.dcmp y1 x1) .l := ⟨_, rfl⟩
    refine oW.dcmp (pc' := 283) K at_282 ev282 rfl ?_
    refine oW.if_ne (pc' := 290) (pc3 := 286) K at_283 (by decide) (by decide) rfl (fun q => absurd (oSame ev282 (gy1.trans gx1.symm) ny1) q) (fun c283 => ?_)
    refine oW.iconst (v := (1 : Int32)) (pc' := 287) K at_286 (by decide) rfl ?_
    refine oW.goto (pc' := 291) K at_287 (by decide) (by decide) ?_
    refine oW.istore (Ls' := #[.val (.int p0), .val (.int p1), .val (.long q2), .second, .val (.long q3), .second, .val (.long q4), .second, .val (.long q5), .second, .val (.int (2 : Int32)), .val (.long v7), .second, .val (.long v15), .second, .val (.long v21), .second, .val (.long v27), .second, .val (.long v36), .second, .val (.long v42), .second, .val (.long v49), .second, .val (.long v56), .second, .val (.long v63), .second, .val (.ref a68), .val (.ref a74), .val (.long v141), .second, .val (.long v148), .second, .val (.ref c), .val (.double v223), .second, .val (.int (1 : Int32))]) (pc' := 293) K at_291 rfl rfl ?_
    refine oW.iload (pc' := 295) K at_293 rfl rfl ?_
    refine oW.iconst (v := (2 : Int32)) (pc' := 296) K at_295 (by decide) rfl ?_
    refine oW.icmp_le (pc' := 332) (pc3 := 299) K at_296 (by decide) (by decide) rfl (fun _ => ?_) (fun q => absurd q (by decide))
    refine oW.iload (pc' := 334) K at_332 rfl rfl ?_
    exact oW.retB K rfl at_334 (by decide) (by decide) ⟨_, rfl, rfl⟩
  · subst hv2
    refine oW.lloadN (pc' := 6) K at_5 rfl rfl ?_
    obtain ⟨v6, ev6⟩ : ∃ z : Int32, z = q2.toInt32 := ⟨_, rfl⟩
    refine oW.l2i (pc' := 7) K at_6 ev6 rfl ?_
    have tv6 := oB32 v6
    obtain ⟨v7, ev7⟩ : ∃ z : Int64, z = v6.toInt64 := ⟨_, rfl⟩
    refine oW.i2l (pc' := 8) K at_7 ev7 rfl ?_
    have tv7 : v7.toInt = _ := oI2L ev7
    refine oW.lstore (Ls' := #[.val (.int p0), .val (.int p1), .val (.long q2), .second, .val (.long q3), .second, .val (.long q4), .second, .val (.long q5), .second, .val (.int (3 : Int32)), .val (.long v7), .second, .unset, .unset, .unset, .unset, .unset, .unset, .unset, .unset, .unset, .unset, .unset, .unset, .unset, .unset, .unset, .unset, .unset, .unset, .unset, .unset, .unset, .unset, .unset, .unset, .unset, .unset]) (pc' := 10) K at_8 rfl rfl ?_
    refine oW.lloadN (pc' := 11) K at_10 rfl rfl ?_
    refine oW.bipush (v := (32 : Int32)) (pc' := 13) K at_11 (by decide) rfl ?_
    obtain ⟨v13, ev13⟩ : ∃ z : Int64, z = q2 >>> ((32 : Int32).toInt64 &&& 63) := ⟨_, rfl⟩
    refine oW.lshr (pc' := 14) K at_13 ev13 rfl ?_
    obtain ⟨v14, ev14⟩ : ∃ z : Int32, z = v13.toInt32 := ⟨_, rfl⟩
    refine oW.l2i (pc' := 15) K at_14 ev14 rfl ?_
    have tv14 := oB32 v14
    obtain ⟨v15, ev15⟩ : ∃ z : Int64, z = v14.toInt64 := ⟨_, rfl⟩
    refine oW.i2l (pc' := 16) K at_15 ev15 rfl ?_
    have tv15 : v15.toInt = _ := oI2L ev15
    refine oW.lstore (Ls' := #[.val (.int p0), .val (.int p1), .val (.long q2), .second, .val (.long q3), .second, .val (.long q4), .second, .val (.long q5), .second, .val (.int (3 : Int32)), .val (.long v7), .second, .val (.long v15), .second, .unset, .unset, .unset, .unset, .unset, .unset, .unset, .unset, .unset, .unset, .unset, .unset, .unset, .unset, .unset, .unset, .unset, .unset, .unset, .unset, .unset, .unset, .unset, .unset]) (pc' := 18) K at_16 rfl rfl ?_
    refine oW.lload (pc' := 20) K at_18 rfl rfl ?_
    obtain ⟨v20, ev20⟩ : ∃ z : Int32, z = q3.toInt32 := ⟨_, rfl⟩
    refine oW.l2i (pc' := 21) K at_20 ev20 rfl ?_
    have tv20 := oB32 v20
    obtain ⟨v21, ev21⟩ : ∃ z : Int64, z = v20.toInt64 := ⟨_, rfl⟩
    refine oW.i2l (pc' := 22) K at_21 ev21 rfl ?_
    have tv21 : v21.toInt = _ := oI2L ev21
    refine oW.lstore (Ls' := #[.val (.int p0), .val (.int p1), .val (.long q2), .second, .val (.long q3), .second, .val (.long q4), .second, .val (.long q5), .second, .val (.int (3 : Int32)), .val (.long v7), .second, .val (.long v15), .second, .val (.long v21), .second, .unset, .unset, .unset, .unset, .unset, .unset, .unset, .unset, .unset, .unset, .unset, .unset, .unset, .unset, .unset, .unset, .unset, .unset, .unset, .unset, .unset, .unset]) (pc' := 24) K at_22 rfl rfl ?_
    refine oW.lload (pc' := 26) K at_24 rfl rfl ?_
    obtain ⟨v26, ev26⟩ : ∃ z : Int32, z = q4.toInt32 := ⟨_, rfl⟩
    refine oW.l2i (pc' := 27) K at_26 ev26 rfl ?_
    have tv26 := oB32 v26
    obtain ⟨v27, ev27⟩ : ∃ z : Int64, z = v26.toInt64 := ⟨_, rfl⟩
    refine oW.i2l (pc' := 28) K at_27 ev27 rfl ?_
    have tv27 : v27.toInt = _ := oI2L ev27
    refine oW.lstore (Ls' := #[.val (.int p0), .val (.int p1), .val (.long q2), .second, .val (.long q3), .second, .val (.long q4), .second, .val (.long q5), .second, .val (.int (3 : Int32)), .val (.long v7), .second, .val (.long v15), .second, .val (.long v21), .second, .val (.long v27), .second, .unset, .unset, .unset, .unset, .unset, .unset, .unset, .unset, .unset, .unset, .unset, .unset, .unset, .unset, .unset, .unset, .unset, .unset, .unset, .unset]) (pc' := 30) K at_28 rfl rfl ?_
    refine oW.lload (pc' := 32) K at_30 rfl rfl ?_
    refine oW.bipush (v := (32 : Int32)) (pc' := 34) K at_32 (by decide) rfl ?_
    obtain ⟨v34, ev34⟩ : ∃ z : Int64, z = q4 >>> ((32 : Int32).toInt64 &&& 63) := ⟨_, rfl⟩
    refine oW.lshr (pc' := 35) K at_34 ev34 rfl ?_
    obtain ⟨v35, ev35⟩ : ∃ z : Int32, z = v34.toInt32 := ⟨_, rfl⟩
    refine oW.l2i (pc' := 36) K at_35 ev35 rfl ?_
    have tv35 := oB32 v35
    obtain ⟨v36, ev36⟩ : ∃ z : Int64, z = v35.toInt64 := ⟨_, rfl⟩
    refine oW.i2l (pc' := 37) K at_36 ev36 rfl ?_
    have tv36 : v36.toInt = _ := oI2L ev36
    refine oW.lstore (Ls' := #[.val (.int p0), .val (.int p1), .val (.long q2), .second, .val (.long q3), .second, .val (.long q4), .second, .val (.long q5), .second, .val (.int (3 : Int32)), .val (.long v7), .second, .val (.long v15), .second, .val (.long v21), .second, .val (.long v27), .second, .val (.long v36), .second, .unset, .unset, .unset, .unset, .unset, .unset, .unset, .unset, .unset, .unset, .unset, .unset, .unset, .unset, .unset, .unset, .unset, .unset]) (pc' := 39) K at_37 rfl rfl ?_
    refine oW.lload (pc' := 41) K at_39 rfl rfl ?_
    obtain ⟨v41, ev41⟩ : ∃ z : Int32, z = q5.toInt32 := ⟨_, rfl⟩
    refine oW.l2i (pc' := 42) K at_41 ev41 rfl ?_
    have tv41 := oB32 v41
    obtain ⟨v42, ev42⟩ : ∃ z : Int64, z = v41.toInt64 := ⟨_, rfl⟩
    refine oW.i2l (pc' := 43) K at_42 ev42 rfl ?_
    have tv42 : v42.toInt = _ := oI2L ev42
    refine oW.lstore (Ls' := #[.val (.int p0), .val (.int p1), .val (.long q2), .second, .val (.long q3), .second, .val (.long q4), .second, .val (.long q5), .second, .val (.int (3 : Int32)), .val (.long v7), .second, .val (.long v15), .second, .val (.long v21), .second, .val (.long v27), .second, .val (.long v36), .second, .val (.long v42), .second, .unset, .unset, .unset, .unset, .unset, .unset, .unset, .unset, .unset, .unset, .unset, .unset, .unset, .unset, .unset, .unset]) (pc' := 45) K at_43 rfl rfl ?_
    refine oW.lload (pc' := 47) K at_45 rfl rfl ?_
    refine oW.lload (pc' := 49) K at_47 rfl rfl ?_
    obtain ⟨v49, ev49⟩ : ∃ z : Int64, z = v7 - v27 := ⟨_, rfl⟩
    refine oW.lsub (pc' := 50) K at_49 ev49 rfl ?_
    have tv49 := oLsub ev49 (by first | omega | (have oTs' := oTs; omega) | (simp only [Int32.reduceToInt, Int64.reduceToInt]; omega))
    try simp only [Int32.reduceToInt, Int64.reduceToInt] at tv49
    refine oW.lstore (Ls' := #[.val (.int p0), .val (.int p1), .val (.long q2), .second, .val (.long q3), .second, .val (.long q4), .second, .val (.long q5), .second, .val (.int (3 : Int32)), .val (.long v7), .second, .val (.long v15), .second, .val (.long v21), .second, .val (.long v27), .second, .val (.long v36), .second, .val (.long v42), .second, .val (.long v49), .second, .unset, .unset, .unset, .unset, .unset, .unset, .unset, .unset, .unset, .unset, .unset, .unset, .unset, .unset]) (pc' := 52) K at_50 rfl rfl ?_
    refine oW.lload (pc' := 54) K at_52 rfl rfl ?_
    refine oW.lload (pc' := 56) K at_54 rfl rfl ?_
    obtain ⟨v56, ev56⟩ : ∃ z : Int64, z = v15 - v36 := ⟨_, rfl⟩
    refine oW.lsub (pc' := 57) K at_56 ev56 rfl ?_
    have tv56 := oLsub ev56 (by first | omega | (have oTs' := oTs; omega) | (simp only [Int32.reduceToInt, Int64.reduceToInt]; omega))
    try simp only [Int32.reduceToInt, Int64.reduceToInt] at tv56
    refine oW.lstore (Ls' := #[.val (.int p0), .val (.int p1), .val (.long q2), .second, .val (.long q3), .second, .val (.long q4), .second, .val (.long q5), .second, .val (.int (3 : Int32)), .val (.long v7), .second, .val (.long v15), .second, .val (.long v21), .second, .val (.long v27), .second, .val (.long v36), .second, .val (.long v42), .second, .val (.long v49), .second, .val (.long v56), .second, .unset, .unset, .unset, .unset, .unset, .unset, .unset, .unset, .unset, .unset, .unset, .unset]) (pc' := 59) K at_57 rfl rfl ?_
    refine oW.lload (pc' := 61) K at_59 rfl rfl ?_
    refine oW.lload (pc' := 63) K at_61 rfl rfl ?_
    obtain ⟨v63, ev63⟩ : ∃ z : Int64, z = v21 - v42 := ⟨_, rfl⟩
    refine oW.lsub (pc' := 64) K at_63 ev63 rfl ?_
    have tv63 := oLsub ev63 (by first | omega | (have oTs' := oTs; omega) | (simp only [Int32.reduceToInt, Int64.reduceToInt]; omega))
    try simp only [Int32.reduceToInt, Int64.reduceToInt] at tv63
    refine oW.lstore (Ls' := #[.val (.int p0), .val (.int p1), .val (.long q2), .second, .val (.long q3), .second, .val (.long q4), .second, .val (.long q5), .second, .val (.int (3 : Int32)), .val (.long v7), .second, .val (.long v15), .second, .val (.long v21), .second, .val (.long v27), .second, .val (.long v36), .second, .val (.long v42), .second, .val (.long v49), .second, .val (.long v56), .second, .val (.long v63), .second, .unset, .unset, .unset, .unset, .unset, .unset, .unset, .unset, .unset, .unset]) (pc' := 66) K at_64 rfl rfl ?_
    refine oW.iload (pc' := 68) K at_66 rfl rfl ?_
    refine oW.newarr (n := 3) (cells' := 1) (slots' := 3) (dsf := fun z => [(z, .inl (.double, [(.double (0 : UInt64)), (.double (0 : UInt64)), (.double (0 : UInt64))]))]) (pc' := 70) K (hw _ (List.mem_of_getElem? (i := 0) rfl)) at_68 rfl (by decide) (by decide) (by decide) (by decide) rfl rfl (fun _ => rfl) rfl ?_
    intro a68 ha68
    refine oW.astore (Ls' := #[.val (.int p0), .val (.int p1), .val (.long q2), .second, .val (.long q3), .second, .val (.long q4), .second, .val (.long q5), .second, .val (.int (3 : Int32)), .val (.long v7), .second, .val (.long v15), .second, .val (.long v21), .second, .val (.long v27), .second, .val (.long v36), .second, .val (.long v42), .second, .val (.long v49), .second, .val (.long v56), .second, .val (.long v63), .second, .val (.ref a68), .unset, .unset, .unset, .unset, .unset, .unset, .unset, .unset, .unset]) (pc' := 72) K at_70 rfl rfl rfl ?_
    refine oW.iload (pc' := 74) K at_72 rfl rfl ?_
    refine oW.newarr (n := 3) (cells' := 2) (slots' := 6) (dsf := fun z => [(a68, .inl (.double, [(.double (0 : UInt64)), (.double (0 : UInt64)), (.double (0 : UInt64))])), (z, .inl (.double, [(.double (0 : UInt64)), (.double (0 : UInt64)), (.double (0 : UInt64))]))]) (pc' := 76) K (hw _ (List.mem_of_getElem? (i := 0) rfl)) at_74 rfl (by decide) (by decide) (by decide) (by decide) rfl rfl (fun _ => rfl) rfl ?_
    intro a74 ha74
    refine oW.astore (Ls' := #[.val (.int p0), .val (.int p1), .val (.long q2), .second, .val (.long q3), .second, .val (.long q4), .second, .val (.long q5), .second, .val (.int (3 : Int32)), .val (.long v7), .second, .val (.long v15), .second, .val (.long v21), .second, .val (.long v27), .second, .val (.long v36), .second, .val (.long v42), .second, .val (.long v49), .second, .val (.long v56), .second, .val (.long v63), .second, .val (.ref a68), .val (.ref a74), .unset, .unset, .unset, .unset, .unset, .unset, .unset, .unset]) (pc' := 78) K at_76 rfl rfl rfl ?_
    refine oW.lconst (v := (0 : Int64)) (pc' := 79) K at_78 (by decide) rfl ?_
    refine oW.lstore (Ls' := #[.val (.int p0), .val (.int p1), .val (.long q2), .second, .val (.long q3), .second, .val (.long q4), .second, .val (.long q5), .second, .val (.int (3 : Int32)), .val (.long v7), .second, .val (.long v15), .second, .val (.long v21), .second, .val (.long v27), .second, .val (.long v36), .second, .val (.long v42), .second, .val (.long v49), .second, .val (.long v56), .second, .val (.long v63), .second, .val (.ref a68), .val (.ref a74), .val (.long (0 : Int64)), .second, .unset, .unset, .unset, .unset, .unset, .unset]) (pc' := 81) K at_79 rfl rfl ?_
    refine oW.lconst (v := (0 : Int64)) (pc' := 82) K at_81 (by decide) rfl ?_
    refine oW.lstore (Ls' := #[.val (.int p0), .val (.int p1), .val (.long q2), .second, .val (.long q3), .second, .val (.long q4), .second, .val (.long q5), .second, .val (.int (3 : Int32)), .val (.long v7), .second, .val (.long v15), .second, .val (.long v21), .second, .val (.long v27), .second, .val (.long v36), .second, .val (.long v42), .second, .val (.long v49), .second, .val (.long v56), .second, .val (.long v63), .second, .val (.ref a68), .val (.ref a74), .val (.long (0 : Int64)), .second, .val (.long (0 : Int64)), .second, .unset, .unset, .unset, .unset]) (pc' := 84) K at_82 rfl rfl ?_
    refine oW.iload (pc' := 86) K at_84 rfl rfl ?_
    refine oW.if_le (pc' := 117) (pc3 := 89) K at_86 (by decide) (by decide) rfl (fun q => absurd q (by decide)) (fun _ => ?_)
    refine oW.aload (pc' := 91) K at_89 rfl rfl rfl ?_
    refine oW.iconst (v := (0 : Int32)) (pc' := 92) K at_91 (by decide) rfl ?_
    refine oW.lload (pc' := 94) K at_92 rfl rfl ?_
    obtain ⟨v94, ev94⟩ : ∃ z : UInt64, z = FP.l2d v7 := ⟨_, rfl⟩
    refine oW.l2d (pc' := 95) K at_94 ev94 rfl ?_
    refine oW.dastore (i := 0) (k := 0) (ds' := [(a68, .inl (.double, [(.double v94), (.double (0 : UInt64)), (.double (0 : UInt64))])), (a74, .inl (.double, [(.double (0 : UInt64)), (.double (0 : UInt64)), (.double (0 : UInt64))]))]) (pc' := 96) K at_95 rfl rfl (by decide) (Nat.lt_of_sub_eq_succ rfl) rfl rfl ?_
    refine oW.aload (pc' := 98) K at_96 rfl rfl rfl ?_
    refine oW.iconst (v := (0 : Int32)) (pc' := 99) K at_98 (by decide) rfl ?_
    refine oW.lload (pc' := 101) K at_99 rfl rfl ?_
    obtain ⟨v101, ev101⟩ : ∃ z : UInt64, z = FP.l2d v27 := ⟨_, rfl⟩
    refine oW.l2d (pc' := 102) K at_101 ev101 rfl ?_
    refine oW.dastore (i := 1) (k := 0) (ds' := [(a68, .inl (.double, [(.double v94), (.double (0 : UInt64)), (.double (0 : UInt64))])), (a74, .inl (.double, [(.double v101), (.double (0 : UInt64)), (.double (0 : UInt64))]))]) (pc' := 103) K at_102 rfl rfl (by decide) (Nat.lt_of_sub_eq_succ rfl) rfl rfl ?_
    refine oW.lload (pc' := 105) K at_103 rfl rfl ?_
    refine oW.lload (pc' := 107) K at_105 rfl rfl ?_
    obtain ⟨v107, ev107⟩ : ∃ z : Int64, z = (0 : Int64) + v27 := ⟨_, rfl⟩
    refine oW.ladd (pc' := 108) K at_107 ev107 rfl ?_
    have tv107 := oLadd ev107 (by first | omega | (have oTs' := oTs; omega) | (simp only [Int32.reduceToInt, Int64.reduceToInt]; omega))
    try simp only [Int32.reduceToInt, Int64.reduceToInt] at tv107
    refine oW.lstore (Ls' := #[.val (.int p0), .val (.int p1), .val (.long q2), .second, .val (.long q3), .second, .val (.long q4), .second, .val (.long q5), .second, .val (.int (3 : Int32)), .val (.long v7), .second, .val (.long v15), .second, .val (.long v21), .second, .val (.long v27), .second, .val (.long v36), .second, .val (.long v42), .second, .val (.long v49), .second, .val (.long v56), .second, .val (.long v63), .second, .val (.ref a68), .val (.ref a74), .val (.long v107), .second, .val (.long (0 : Int64)), .second, .unset, .unset, .unset, .unset]) (pc' := 110) K at_108 rfl rfl ?_
    refine oW.lload (pc' := 112) K at_110 rfl rfl ?_
    refine oW.lload (pc' := 114) K at_112 rfl rfl ?_
    obtain ⟨v114, ev114⟩ : ∃ z : Int64, z = (0 : Int64) + v49 := ⟨_, rfl⟩
    refine oW.ladd (pc' := 115) K at_114 ev114 rfl ?_
    have tv114 := oLadd ev114 (by first | omega | (have oTs' := oTs; omega) | (simp only [Int32.reduceToInt, Int64.reduceToInt]; omega))
    try simp only [Int32.reduceToInt, Int64.reduceToInt] at tv114
    refine oW.lstore (Ls' := #[.val (.int p0), .val (.int p1), .val (.long q2), .second, .val (.long q3), .second, .val (.long q4), .second, .val (.long q5), .second, .val (.int (3 : Int32)), .val (.long v7), .second, .val (.long v15), .second, .val (.long v21), .second, .val (.long v27), .second, .val (.long v36), .second, .val (.long v42), .second, .val (.long v49), .second, .val (.long v56), .second, .val (.long v63), .second, .val (.ref a68), .val (.ref a74), .val (.long v107), .second, .val (.long v114), .second, .unset, .unset, .unset, .unset]) (pc' := 117) K at_115 rfl rfl ?_
    refine oW.iload (pc' := 119) K at_117 rfl rfl ?_
    refine oW.iconst (v := (1 : Int32)) (pc' := 120) K at_119 (by decide) rfl ?_
    refine oW.icmp_le (pc' := 151) (pc3 := 123) K at_120 (by decide) (by decide) rfl (fun q => absurd q (by decide)) (fun _ => ?_)
    refine oW.aload (pc' := 125) K at_123 rfl rfl rfl ?_
    refine oW.iconst (v := (1 : Int32)) (pc' := 126) K at_125 (by decide) rfl ?_
    refine oW.lload (pc' := 128) K at_126 rfl rfl ?_
    obtain ⟨v128, ev128⟩ : ∃ z : UInt64, z = FP.l2d v15 := ⟨_, rfl⟩
    refine oW.l2d (pc' := 129) K at_128 ev128 rfl ?_
    refine oW.dastore (i := 0) (k := 1) (ds' := [(a68, .inl (.double, [(.double v94), (.double v128), (.double (0 : UInt64))])), (a74, .inl (.double, [(.double v101), (.double (0 : UInt64)), (.double (0 : UInt64))]))]) (pc' := 130) K at_129 rfl rfl (by decide) (Nat.lt_of_sub_eq_succ rfl) rfl rfl ?_
    refine oW.aload (pc' := 132) K at_130 rfl rfl rfl ?_
    refine oW.iconst (v := (1 : Int32)) (pc' := 133) K at_132 (by decide) rfl ?_
    refine oW.lload (pc' := 135) K at_133 rfl rfl ?_
    obtain ⟨v135, ev135⟩ : ∃ z : UInt64, z = FP.l2d v36 := ⟨_, rfl⟩
    refine oW.l2d (pc' := 136) K at_135 ev135 rfl ?_
    refine oW.dastore (i := 1) (k := 1) (ds' := [(a68, .inl (.double, [(.double v94), (.double v128), (.double (0 : UInt64))])), (a74, .inl (.double, [(.double v101), (.double v135), (.double (0 : UInt64))]))]) (pc' := 137) K at_136 rfl rfl (by decide) (Nat.lt_of_sub_eq_succ rfl) rfl rfl ?_
    refine oW.lload (pc' := 139) K at_137 rfl rfl ?_
    refine oW.lload (pc' := 141) K at_139 rfl rfl ?_
    obtain ⟨v141, ev141⟩ : ∃ z : Int64, z = v107 + v36 := ⟨_, rfl⟩
    refine oW.ladd (pc' := 142) K at_141 ev141 rfl ?_
    have tv141 := oLadd ev141 (by first | omega | (have oTs' := oTs; omega) | (simp only [Int32.reduceToInt, Int64.reduceToInt]; omega))
    try simp only [Int32.reduceToInt, Int64.reduceToInt] at tv141
    refine oW.lstore (Ls' := #[.val (.int p0), .val (.int p1), .val (.long q2), .second, .val (.long q3), .second, .val (.long q4), .second, .val (.long q5), .second, .val (.int (3 : Int32)), .val (.long v7), .second, .val (.long v15), .second, .val (.long v21), .second, .val (.long v27), .second, .val (.long v36), .second, .val (.long v42), .second, .val (.long v49), .second, .val (.long v56), .second, .val (.long v63), .second, .val (.ref a68), .val (.ref a74), .val (.long v141), .second, .val (.long v114), .second, .unset, .unset, .unset, .unset]) (pc' := 144) K at_142 rfl rfl ?_
    refine oW.lload (pc' := 146) K at_144 rfl rfl ?_
    refine oW.lload (pc' := 148) K at_146 rfl rfl ?_
    obtain ⟨v148, ev148⟩ : ∃ z : Int64, z = v114 + v56 := ⟨_, rfl⟩
    refine oW.ladd (pc' := 149) K at_148 ev148 rfl ?_
    have tv148 := oLadd ev148 (by first | omega | (have oTs' := oTs; omega) | (simp only [Int32.reduceToInt, Int64.reduceToInt]; omega))
    try simp only [Int32.reduceToInt, Int64.reduceToInt] at tv148
    refine oW.lstore (Ls' := #[.val (.int p0), .val (.int p1), .val (.long q2), .second, .val (.long q3), .second, .val (.long q4), .second, .val (.long q5), .second, .val (.int (3 : Int32)), .val (.long v7), .second, .val (.long v15), .second, .val (.long v21), .second, .val (.long v27), .second, .val (.long v36), .second, .val (.long v42), .second, .val (.long v49), .second, .val (.long v56), .second, .val (.long v63), .second, .val (.ref a68), .val (.ref a74), .val (.long v141), .second, .val (.long v148), .second, .unset, .unset, .unset, .unset]) (pc' := 151) K at_149 rfl rfl ?_
    refine oW.iload (pc' := 153) K at_151 rfl rfl ?_
    refine oW.iconst (v := (2 : Int32)) (pc' := 154) K at_153 (by decide) rfl ?_
    refine oW.icmp_le (pc' := 185) (pc3 := 157) K at_154 (by decide) (by decide) rfl (fun q => absurd q (by decide)) (fun _ => ?_)
    refine oW.aload (pc' := 159) K at_157 rfl rfl rfl ?_
    refine oW.iconst (v := (2 : Int32)) (pc' := 160) K at_159 (by decide) rfl ?_
    refine oW.lload (pc' := 162) K at_160 rfl rfl ?_
    obtain ⟨v162, ev162⟩ : ∃ z : UInt64, z = FP.l2d v21 := ⟨_, rfl⟩
    refine oW.l2d (pc' := 163) K at_162 ev162 rfl ?_
    refine oW.dastore (i := 0) (k := 2) (ds' := [(a68, .inl (.double, [(.double v94), (.double v128), (.double v162)])), (a74, .inl (.double, [(.double v101), (.double v135), (.double (0 : UInt64))]))]) (pc' := 164) K at_163 rfl rfl (by decide) (Nat.lt_of_sub_eq_succ rfl) rfl rfl ?_
    refine oW.aload (pc' := 166) K at_164 rfl rfl rfl ?_
    refine oW.iconst (v := (2 : Int32)) (pc' := 167) K at_166 (by decide) rfl ?_
    refine oW.lload (pc' := 169) K at_167 rfl rfl ?_
    obtain ⟨v169, ev169⟩ : ∃ z : UInt64, z = FP.l2d v42 := ⟨_, rfl⟩
    refine oW.l2d (pc' := 170) K at_169 ev169 rfl ?_
    refine oW.dastore (i := 1) (k := 2) (ds' := [(a68, .inl (.double, [(.double v94), (.double v128), (.double v162)])), (a74, .inl (.double, [(.double v101), (.double v135), (.double v169)]))]) (pc' := 171) K at_170 rfl rfl (by decide) (Nat.lt_of_sub_eq_succ rfl) rfl rfl ?_
    refine oW.lload (pc' := 173) K at_171 rfl rfl ?_
    refine oW.lload (pc' := 175) K at_173 rfl rfl ?_
    obtain ⟨v175, ev175⟩ : ∃ z : Int64, z = v141 + v42 := ⟨_, rfl⟩
    refine oW.ladd (pc' := 176) K at_175 ev175 rfl ?_
    have tv175 := oLadd ev175 (by first | omega | (have oTs' := oTs; omega) | (simp only [Int32.reduceToInt, Int64.reduceToInt]; omega))
    try simp only [Int32.reduceToInt, Int64.reduceToInt] at tv175
    refine oW.lstore (Ls' := #[.val (.int p0), .val (.int p1), .val (.long q2), .second, .val (.long q3), .second, .val (.long q4), .second, .val (.long q5), .second, .val (.int (3 : Int32)), .val (.long v7), .second, .val (.long v15), .second, .val (.long v21), .second, .val (.long v27), .second, .val (.long v36), .second, .val (.long v42), .second, .val (.long v49), .second, .val (.long v56), .second, .val (.long v63), .second, .val (.ref a68), .val (.ref a74), .val (.long v175), .second, .val (.long v148), .second, .unset, .unset, .unset, .unset]) (pc' := 178) K at_176 rfl rfl ?_
    refine oW.lload (pc' := 180) K at_178 rfl rfl ?_
    refine oW.lload (pc' := 182) K at_180 rfl rfl ?_
    obtain ⟨v182, ev182⟩ : ∃ z : Int64, z = v148 + v63 := ⟨_, rfl⟩
    refine oW.ladd (pc' := 183) K at_182 ev182 rfl ?_
    have tv182 := oLadd ev182 (by first | omega | (have oTs' := oTs; omega) | (simp only [Int32.reduceToInt, Int64.reduceToInt]; omega))
    try simp only [Int32.reduceToInt, Int64.reduceToInt] at tv182
    refine oW.lstore (Ls' := #[.val (.int p0), .val (.int p1), .val (.long q2), .second, .val (.long q3), .second, .val (.long q4), .second, .val (.long q5), .second, .val (.int (3 : Int32)), .val (.long v7), .second, .val (.long v15), .second, .val (.long v21), .second, .val (.long v27), .second, .val (.long v36), .second, .val (.long v42), .second, .val (.long v49), .second, .val (.long v56), .second, .val (.long v63), .second, .val (.ref a68), .val (.ref a74), .val (.long v175), .second, .val (.long v182), .second, .unset, .unset, .unset, .unset]) (pc' := 185) K at_183 rfl rfl ?_
    refine oW.iloadN (pc' := 186) K at_185 rfl rfl ?_
    obtain ⟨v186, ev186⟩ : ∃ z : UInt64, z = FP.i2d p1 := ⟨_, rfl⟩
    have lv186 : v186 = FP.l2d p1.toInt64 := ev186.trans (i2d_w _)
    refine oW.i2d (pc' := 187) K at_186 ev186 rfl ?_
    refine oW.aload (pc' := 189) K at_187 rfl rfl rfl ?_
    refine oW.aload (pc' := 191) K at_189 rfl rfl rfl ?_
    have bp1 := oB32 p1
    have tp1 : p1.toInt64.toInt = p1.toInt := oI2L rfl
    obtain ⟨X, hX⟩ := oI64 (p1.toInt - v175.toInt) (by first | omega | (have oTs' := oTs; omega) | (simp only [Int32.reduceToInt, Int64.reduceToInt]; omega))
    have aq0 := ev94
    have bq0 := ev101
    have aq1 := ev128
    have bq1 := ev135
    have aq2 := ev162
    have bq2 := ev169
    rw [lv186, aq0, bq0, aq1, bq1, aq2, bq2]
    refine oW.callS (argsL := [(.double (FP.l2d p1.toInt64)), (.ref a68), (.ref a74)]) (S := []) (rm := ({ frames := 0, cells := 1, slots := 3, locals := 0 } : Room)) (W := 0) (cells' := 3) (slots' := 9) (pc' := 194) K (hw _ (List.mem_of_getElem? (i := 1) rfl)) (hw _ (List.mem_of_getElem? (i := 2) rfl)) (hw _ (List.mem_of_getElem? (i := 3) rfl)) (hw _ (List.mem_of_getElem? (i := 4) rfl)) (by decide) (own_sp3 hw a68 a74 p1.toInt64 X v182 (by omega) v7 v27 v49 (by omega) (by omega) (by omega) v15 v36 v56 (by omega) (by omega) (by omega) v21 v42 v63 (by omega) (by omega) (by omega) (by first | omega | (have oTs' := oTs; omega) | (simp only [Int32.reduceToInt, Int64.reduceToInt]; omega)) (by first | omega | (have oTs' := oTs; omega) | (simp only [Int32.reduceToInt, Int64.reduceToInt]; omega))) (lenOf pd_0 rfl) at_191 rfl rfl (Nat.le_of_eq rfl) (by decide) (by decide) (by decide) (by decide) rfl rfl rfl ?_
    rintro _ _ ⟨c, y0, y1, y2, rfl, gy0, ny0, gy1, ny1, gy2, ny2, rfl⟩
    refine oW.astore (Ls' := #[.val (.int p0), .val (.int p1), .val (.long q2), .second, .val (.long q3), .second, .val (.long q4), .second, .val (.long q5), .second, .val (.int (3 : Int32)), .val (.long v7), .second, .val (.long v15), .second, .val (.long v21), .second, .val (.long v27), .second, .val (.long v36), .second, .val (.long v42), .second, .val (.long v49), .second, .val (.long v56), .second, .val (.long v63), .second, .val (.ref a68), .val (.ref a74), .val (.long v175), .second, .val (.long v182), .second, .val (.ref c), .unset, .unset, .unset]) (pc' := 196) K at_194 rfl rfl rfl ?_
    refine oW.aload (pc' := 198) K at_196 rfl rfl rfl ?_
    refine oW.ifnullNo (pc' := 201) K at_198 rfl ?_
    refine oW.aload (pc' := 203) K at_201 rfl rfl rfl ?_
    refine oW.alen (i := 2) (v := (3 : Int32)) (pc' := 204) K at_203 rfl rfl rfl ?_
    refine oW.iload (pc' := 206) K at_204 rfl rfl ?_
    refine oW.icmp_eq (pc' := 211) (pc3 := 209) K at_206 (by decide) (by decide) rfl (fun _ => ?_) (fun q => absurd q (by decide))
    refine oW.iload (pc' := 213) K at_211 rfl rfl ?_
    refine oW.if_ne (pc' := 218) (pc3 := 216) K at_213 (by decide) (by decide) rfl (fun _ => ?_) (fun q => absurd q (by decide))
    refine oW.iloadN (pc' := 219) K at_218 rfl rfl ?_
    obtain ⟨v219, ev219⟩ : ∃ z : Int64, z = p1.toInt64 := ⟨_, rfl⟩
    refine oW.i2l (pc' := 220) K at_219 ev219 rfl ?_
    have tv219 : v219.toInt = _ := oI2L ev219
    refine oW.lload (pc' := 222) K at_220 rfl rfl ?_
    obtain ⟨v222, ev222⟩ : ∃ z : Int64, z = v219 - v175 := ⟨_, rfl⟩
    refine oW.lsub (pc' := 223) K at_222 ev222 rfl ?_
    have tv222 := oLsub ev222 (by first | omega | (have oTs' := oTs; omega) | (simp only [Int32.reduceToInt, Int64.reduceToInt]; omega))
    try simp only [Int32.reduceToInt, Int64.reduceToInt] at tv222
    obtain ⟨v223, ev223⟩ : ∃ z : UInt64, z = FP.l2d v222 := ⟨_, rfl⟩
    refine oW.l2d (pc' := 224) K at_223 ev223 rfl ?_
    refine oW.dstore (Ls' := #[.val (.int p0), .val (.int p1), .val (.long q2), .second, .val (.long q3), .second, .val (.long q4), .second, .val (.long q5), .second, .val (.int (3 : Int32)), .val (.long v7), .second, .val (.long v15), .second, .val (.long v21), .second, .val (.long v27), .second, .val (.long v36), .second, .val (.long v42), .second, .val (.long v49), .second, .val (.long v56), .second, .val (.long v63), .second, .val (.ref a68), .val (.ref a74), .val (.long v175), .second, .val (.long v182), .second, .val (.ref c), .val (.double v223), .second, .unset]) (pc' := 226) K at_224 rfl rfl ?_
    refine oW.aload (pc' := 228) K at_226 rfl rfl rfl ?_
    refine oW.iconst (v := (0 : Int32)) (pc' := 229) K at_228 (by decide) rfl ?_
    refine oW.daload (i := 2) (k := 0) (pc' := 230) K at_229 rfl rfl (by decide) rfl rfl ?_
    refine oW.dload (pc' := 232) K at_230 rfl rfl ?_
    refine oW.lload (pc' := 234) K at_232 rfl rfl ?_
    refine oW.iload (pc' := 236) K at_234 rfl rfl ?_
    refine oW.lload (pc' := 238) K at_236 rfl rfl ?_
    refine oW.lload (pc' := 240) K at_238 rfl rfl ?_
    have eX : X = v222 := oEq64.mpr (by omega)
    rw [eX] at gy0
    rw [eX] at gy1
    rw [eX] at gy2
    refine oW.callS (argsL := [(.double v223), (.long v182), (.int (3 : Int32)), (.long v27), (.long v49)]) (S := [(.double y0)]) (rm := ({ frames := 0, cells := 0, slots := 0, locals := 0 } : Room)) (W := 2) (cells' := 3) (slots' := 9) (pc' := 243) K (hw _ (List.mem_of_getElem? (i := 5) rfl)) (hw _ (List.mem_of_getElem? (i := 6) rfl)) (hw _ (List.mem_of_getElem? (i := 7) rfl)) (hw _ (List.mem_of_getElem? (i := 8) rfl)) (by decide) (by rw [ev223]; exact own_ex3 hw v222 v182 v27 v49 _) (lenOf pd_1 rfl) at_240 rfl rfl (Nat.le_of_eq rfl) (by decide) (by decide) (by decide) (by decide) rfl rfl rfl ?_
    rintro _ _ ⟨x0, rfl, gx0, rfl⟩
    obtain ⟨v243, ev243⟩ : ∃ z : Int32, z = cmpValue (FP.dcmp y0 x0) .l := ⟨_, rfl⟩
    refine oW.dcmp (pc' := 244) K at_243 ev243 rfl ?_
    refine oW.if_ne (pc' := 251) (pc3 := 247) K at_244 (by decide) (by decide) rfl (fun q => absurd (oSame ev243 (gy0.trans gx0.symm) ny0) q) (fun c244 => ?_)
    refine oW.iconst (v := (1 : Int32)) (pc' := 248) K at_247 (by decide) rfl ?_
    refine oW.goto (pc' := 252) K at_248 (by decide) (by decide) ?_
    refine oW.istore (Ls' := #[.val (.int p0), .val (.int p1), .val (.long q2), .second, .val (.long q3), .second, .val (.long q4), .second, .val (.long q5), .second, .val (.int (3 : Int32)), .val (.long v7), .second, .val (.long v15), .second, .val (.long v21), .second, .val (.long v27), .second, .val (.long v36), .second, .val (.long v42), .second, .val (.long v49), .second, .val (.long v56), .second, .val (.long v63), .second, .val (.ref a68), .val (.ref a74), .val (.long v175), .second, .val (.long v182), .second, .val (.ref c), .val (.double v223), .second, .val (.int (1 : Int32))]) (pc' := 254) K at_252 rfl rfl ?_
    refine oW.iload (pc' := 256) K at_254 rfl rfl ?_
    refine oW.iconst (v := (1 : Int32)) (pc' := 257) K at_256 (by decide) rfl ?_
    refine oW.icmp_le (pc' := 293) (pc3 := 260) K at_257 (by decide) (by decide) rfl (fun q => absurd q (by decide)) (fun _ => ?_)
    refine oW.iload (pc' := 262) K at_260 rfl rfl ?_
    refine oW.if_eq (pc' := 290) (pc3 := 265) K at_262 (by decide) (by decide) rfl (fun q => absurd q (by decide)) (fun _ => ?_)
    refine oW.aload (pc' := 267) K at_265 rfl rfl rfl ?_
    refine oW.iconst (v := (1 : Int32)) (pc' := 268) K at_267 (by decide) rfl ?_
    refine oW.daload (i := 2) (k := 1) (pc' := 269) K at_268 rfl rfl (by decide) rfl rfl ?_
    refine oW.dload (pc' := 271) K at_269 rfl rfl ?_
    refine oW.lload (pc' := 273) K at_271 rfl rfl ?_
    refine oW.iload (pc' := 275) K at_273 rfl rfl ?_
    refine oW.lload (pc' := 277) K at_275 rfl rfl ?_
    refine oW.lload (pc' := 279) K at_277 rfl rfl ?_
    refine oW.callS (argsL := [(.double v223), (.long v182), (.int (3 : Int32)), (.long v36), (.long v56)]) (S := [(.double y1)]) (rm := ({ frames := 0, cells := 0, slots := 0, locals := 0 } : Room)) (W := 2) (cells' := 3) (slots' := 9) (pc' := 282) K (hw _ (List.mem_of_getElem? (i := 5) rfl)) (hw _ (List.mem_of_getElem? (i := 6) rfl)) (hw _ (List.mem_of_getElem? (i := 7) rfl)) (hw _ (List.mem_of_getElem? (i := 8) rfl)) (by decide) (by rw [ev223]; exact own_ex3 hw v222 v182 v36 v56 _) (lenOf pd_1 rfl) at_279 rfl rfl (Nat.le_of_eq rfl) (by decide) (by decide) (by decide) (by decide) rfl rfl rfl ?_
    rintro _ _ ⟨x1, rfl, gx1, rfl⟩
    obtain ⟨v282, ev282⟩ : ∃ z : Int32, z = cmpValue (FP.dcmp y1 x1) .l := ⟨_, rfl⟩
    refine oW.dcmp (pc' := 283) K at_282 ev282 rfl ?_
    refine oW.if_ne (pc' := 290) (pc3 := 286) K at_283 (by decide) (by decide) rfl (fun q => absurd (oSame ev282 (gy1.trans gx1.symm) ny1) q) (fun c283 => ?_)
    refine oW.iconst (v := (1 : Int32)) (pc' := 287) K at_286 (by decide) rfl ?_
    refine oW.goto (pc' := 291) K at_287 (by decide) (by decide) ?_
    refine oW.istore (Ls' := #[.val (.int p0), .val (.int p1), .val (.long q2), .second, .val (.long q3), .second, .val (.long q4), .second, .val (.long q5), .second, .val (.int (3 : Int32)), .val (.long v7), .second, .val (.long v15), .second, .val (.long v21), .second, .val (.long v27), .second, .val (.long v36), .second, .val (.long v42), .second, .val (.long v49), .second, .val (.long v56), .second, .val (.long v63), .second, .val (.ref a68), .val (.ref a74), .val (.long v175), .second, .val (.long v182), .second, .val (.ref c), .val (.double v223), .second, .val (.int (1 : Int32))]) (pc' := 293) K at_291 rfl rfl ?_
    refine oW.iload (pc' := 295) K at_293 rfl rfl ?_
    refine oW.iconst (v := (2 : Int32)) (pc' := 296) K at_295 (by decide) rfl ?_
    refine oW.icmp_le (pc' := 332) (pc3 := 299) K at_296 (by decide) (by decide) rfl (fun q => absurd q (by decide)) (fun _ => ?_)
    refine oW.iload (pc' := 301) K at_299 rfl rfl ?_
    refine oW.if_eq (pc' := 329) (pc3 := 304) K at_301 (by decide) (by decide) rfl (fun q => absurd q (by decide)) (fun _ => ?_)
    refine oW.aload (pc' := 306) K at_304 rfl rfl rfl ?_
    refine oW.iconst (v := (2 : Int32)) (pc' := 307) K at_306 (by decide) rfl ?_
    refine oW.daload (i := 2) (k := 2) (pc' := 308) K at_307 rfl rfl (by decide) rfl rfl ?_
    refine oW.dload (pc' := 310) K at_308 rfl rfl ?_
    refine oW.lload (pc' := 312) K at_310 rfl rfl ?_
    refine oW.iload (pc' := 314) K at_312 rfl rfl ?_
    refine oW.lload (pc' := 316) K at_314 rfl rfl ?_
    refine oW.lload (pc' := 318) K at_316 rfl rfl ?_
    refine oW.callS (argsL := [(.double v223), (.long v182), (.int (3 : Int32)), (.long v42), (.long v63)]) (S := [(.double y2)]) (rm := ({ frames := 0, cells := 0, slots := 0, locals := 0 } : Room)) (W := 2) (cells' := 3) (slots' := 9) (pc' := 321) K (hw _ (List.mem_of_getElem? (i := 5) rfl)) (hw _ (List.mem_of_getElem? (i := 6) rfl)) (hw _ (List.mem_of_getElem? (i := 7) rfl)) (hw _ (List.mem_of_getElem? (i := 8) rfl)) (by decide) (by rw [ev223]; exact own_ex3 hw v222 v182 v42 v63 _) (lenOf pd_1 rfl) at_318 rfl rfl (Nat.le_of_eq rfl) (by decide) (by decide) (by decide) (by decide) rfl rfl rfl ?_
    rintro _ _ ⟨x2, rfl, gx2, rfl⟩
    obtain ⟨v321, ev321⟩ : ∃ z : Int32, z = cmpValue (FP.dcmp y2 x2) .l := ⟨_, rfl⟩
    refine oW.dcmp (pc' := 322) K at_321 ev321 rfl ?_
    refine oW.if_ne (pc' := 329) (pc3 := 325) K at_322 (by decide) (by decide) rfl (fun q => absurd (oSame ev321 (gy2.trans gx2.symm) ny2) q) (fun c322 => ?_)
    refine oW.iconst (v := (1 : Int32)) (pc' := 326) K at_325 (by decide) rfl ?_
    refine oW.goto (pc' := 330) K at_326 (by decide) (by decide) ?_
    refine oW.istore (Ls' := #[.val (.int p0), .val (.int p1), .val (.long q2), .second, .val (.long q3), .second, .val (.long q4), .second, .val (.long q5), .second, .val (.int (3 : Int32)), .val (.long v7), .second, .val (.long v15), .second, .val (.long v21), .second, .val (.long v27), .second, .val (.long v36), .second, .val (.long v42), .second, .val (.long v49), .second, .val (.long v56), .second, .val (.long v63), .second, .val (.ref a68), .val (.ref a74), .val (.long v175), .second, .val (.long v182), .second, .val (.ref c), .val (.double v223), .second, .val (.int (1 : Int32))]) (pc' := 332) K at_330 rfl rfl ?_
    refine oW.iload (pc' := 334) K at_332 rfl rfl ?_
    exact oW.retB K rfl at_334 (by decide) (by decide) ⟨_, rfl, rfl⟩
set_option maxRecDepth 65536 in
set_option maxHeartbeats 40000000 in
theorem comes_1 {Post : Tables → Env → Array Value → State → Outcome → State → Prop} (hpost : ∀ tb e args s v u, (limb_1_1.after args s (.returned v) u = true ∧ limb_1_2.after args s (.returned v) u = true ∧ True) → FrameEnd s (.returned v) u (Jvm.fieldLocs frame_1_writes args s ++ Jvm.arrayLocs frame_1_arrays args s ++ Jvm.staticLocs frame_1_statics s) 16 128 → Post tb e args s (.returned v) u) :
    ArmFor flags0 classFile x code maxLocals ret World_1 tables_1 room_1 Calls_1 rest_1 Pre_1 Post := by
  intro l hfl _ _ p e ha hc hk s m args below hf hA hF happ hP
  obtain ⟨hcalls, hrest, hpre⟩ := hP
  obtain ⟨-, -, -, hnamed, -, -, -, hat⟩ := (Spec.applies_iff hf).mp happ
  obtain ⟨hg, hn⟩ := and_e (Cond.before_iff.mp (show (Jvm.Cond.and given_1 narrow_1).before args s = true from hpre))
  obtain ⟨hcount, g0⟩ := and_e hg
  obtain ⟨k0, g1⟩ := and_e g0
  obtain ⟨k1, g2⟩ := and_e g1
  obtain ⟨k2, g3⟩ := and_e g2
  obtain ⟨k3, g4⟩ := and_e g3
  obtain ⟨k4, g5⟩ := and_e g4
  obtain ⟨w0, w1, w2, w3, w4, w5, rfl⟩ : ∃ w0 w1 w2 w3 w4 w5 : Value, args = #[w0, w1, w2, w3, w4, w5] := by
    have hs : args.size = 6 := by simpa [Cond.value, given_1] using hcount
    obtain ⟨L⟩ := args
    match L, hs with
    | [w0, w1, w2, w3, w4, w5], _ => exact ⟨w0, w1, w2, w3, w4, w5, rfl⟩
  have hw := fun d (hd : d ∈ tables_1) => atoms_spec (ws := Jvm.Cond.code x code maxLocals ret :: tables_1) hat d (List.mem_cons_of_mem _ hd)
  obtain ⟨i0, ei0⟩ := is_v k0
  obtain rfl : w0 = (.int i0) := Option.some.inj ei0
  obtain ⟨i1, ei1⟩ := is_v k1
  obtain rfl : w1 = (.int i1) := Option.some.inj ei1
  obtain ⟨i2, ei2⟩ := isL_v k2
  obtain rfl : w2 = (.long i2) := Option.some.inj ei2
  obtain ⟨i3, ei3⟩ := isL_v k3
  obtain rfl : w3 = (.long i3) := Option.some.inj ei3
  obtain ⟨i4, ei4⟩ := isL_v k4
  obtain rfl : w4 = (.long i4) := Option.some.inj ei4
  obtain ⟨i5, ei5⟩ := isL_v g5
  obtain rfl : w5 = (.long i5) := Option.some.inj ei5
  obtain ⟨n, o, h1, h2, h3, _, L, rfl, ⟨N, _, ⟨_, rfl, rfl⟩, _⟩, hq⟩ := (own_law (l := l) (h0 := s.heap) hw i0 i1 i2 i3 i4 i5) s.heap (oMem.start s s.heap) p e ha hc hk s m _ below hf ((Spec.applies_iff_loose hf).mp happ).1 ⟨rfl, State.Warmed39.refl s, rfl⟩ trivial
  refine ⟨n, _, h1, h2, h3, hpost _ _ _ _ _ _ ⟨Cond.after_iff.mpr rfl, Cond.after_iff.mpr (eq_i res_at (Term.int_eval (1)) rfl), trivial⟩ ⟨hq.1, hq.2.1, (hq.2.2.sift fun y hy => Or.inr (N y hy)).mono (by decide) (by decide)⟩⟩
theorem main_1_1 : Claimed_1_1 := comes_1 fun _ _ _ _ _ _ h hF => ⟨h.1, hF⟩
theorem main_1_2 : Claimed_1_2 := comes_1 fun _ _ _ _ _ _ h hF => ⟨h.2.1, hF⟩
end Jvm.Pilot.@@N@@
namespace Jvm.Pilot.@@N@@
open Jvm Jvm.ClassFile Sem Op Lib Jvm.Free Jvm.Stand Jvm.Pilot.@@N@@.Jvm.D
/-! MADE BY PROGRAM (witnessworld.py) out of the Statement's table words and the real class files: 11 classes; the members and pool entries that the words name. The judged class is class 1, her method 1. -/
namespace start1
open Jvm.ClassFile
def u (s : String) : CpInfo := .utf8 (stringToUtf16 s)
/-- a pool by its gaps: so many unusable entries, then the entry; so many at the end -/
def gap : Nat → List CpInfo → List CpInfo
  | 0, r => r
  | n + 1, r => .unusable :: gap n r
def poolList (es : List (Nat × CpInfo)) (last : Nat) : List CpInfo := es.foldr (fun e r => gap e.1 (e.2 :: r)) (gap last [])
def pool (es : List (Nat × CpInfo)) (last : Nat) : Array CpInfo := ⟨poolList es last⟩
def fileOf (pool : Array CpInfo) (this : Nat) (attrs : Array Attribute := #[]) (ms : Array MethodInfo := #[]) (fl : Nat := 33) (sup : Nat := 0) (ifs : Array Nat := #[]) (fds : Array FieldInfo := #[]) : ClassFile where
  minorVersion := 0
  majorVersion := 65
  constantPool := pool
  accessFlags := fl
  thisClass := this
  superClass := sup
  interfaces := ifs
  fields := fds
  methods := ms
  attributes := attrs
def plain (name : String) (sup : Option ClassId) : Class where
  name := name
  kind := .ordinary
  loader := none
  accessFlags := 33
  super := sup
  interfaces := #[]
  cf := none
  fields := #[]
  methods := #[]
  instanceTypes := #[]
  staticTypes := #[]
  resolved := #[]
  callSites := []
  init := .initialized
  statics := none
  mirror := none

def pool0 : Array CpInfo := pool [(5, u "<init>"), (0, u "()V"), (1, .class_ 10), (1, u "java/lang/Object")] 113

def k0m0 : Method := { name := "<init>", desc := "()V", sig := { parameters := [], returnType := none }, accessFlags := 1, code := none }
/-- java/lang/Object -/
def k0 : Class := { plain "java/lang/Object" none with
  accessFlags := 33
  interfaces := #[]
  cf := some (fileOf pool0 8 #[] #[{ accessFlags := 1, nameIndex := 5, descriptorIndex := 6, attributes := #[] }] 33 0 #[] #[])
  fields := #[]
  methods := #[k0m0]
  instanceTypes := #[]
  staticTypes := #[]
  resolved := Array.replicate 124 none
  statics := none }

def pool1 : Array CpInfo := pool [(2, .class_ 4), (1, u "java/lang/Object"), (0, u "<init>"), (0, u "()V"), (0, .methodref 8 9), (0, .class_ 10), (0, .nameAndType 11 12), (0, u "com/example/lotwise/lotwise/auction/PauseAuction"), (0, u "spread"), (0, u "(D[D[D)[D"), (0, .methodref 14 15), (0, .class_ 16), (0, .nameAndType 17 18), (0, u "com/example/lotwise/lotwise/auction/PauseAuctionSpreadPinLaw"), (0, u "expected"), (0, u "(DJIJJ)D"), (2, u "law"), (0, u "(IIJJJJ)Z")] 5

def k1m0 : Method := { name := "<init>", desc := "()V", sig := { parameters := [], returnType := none }, accessFlags := 1, code := none }
def k1c1 : Code := { maxStack := 11, maxLocals := 39, code := code, exceptionTable := #[], attributes := #[] }
def k1m1 : Method := { name := "law", desc := "(IIJJJJ)Z", sig := { parameters := [.int, .int, .long, .long, .long, .long], returnType := some .boolean }, accessFlags := 9, code := some k1c1 }
def k1c2 : Code := { maxStack := 4, maxLocals := 11, code := method_3_code, exceptionTable := #[], attributes := #[] }
def k1m2 : Method := { name := "expected", desc := "(DJIJJ)D", sig := { parameters := [.double, .long, .int, .long, .long], returnType := some .double }, accessFlags := 10, code := some k1c2 }
/-- com/example/lotwise/lotwise/auction/PauseAuctionSpreadPinLaw -/
def k1 : Class := { plain "com/example/lotwise/lotwise/auction/PauseAuctionSpreadPinLaw" (some 0) with
  accessFlags := 49
  interfaces := #[]
  cf := some (fileOf pool1 14 #[] #[{ accessFlags := 1, nameIndex := 5, descriptorIndex := 6, attributes := #[] }, { accessFlags := 9, nameIndex := 21, descriptorIndex := 22, attributes := #[] }, { accessFlags := 10, nameIndex := 17, descriptorIndex := 18, attributes := #[] }] 49 2 #[] #[])
  fields := #[]
  methods := #[k1m0, k1m1, k1m2]
  instanceTypes := #[]
  staticTypes := #[]
  resolved := Array.replicate 28 none
  statics := none }

def pool2 : Array CpInfo := pool [(2, .class_ 4), (1, u "java/lang/Object"), (6, .class_ 13), (1, u "com/example/lotwise/lotwise/auction/PauseAuction"), (0, u "linesOf"), (0, u "Ljava/util/List;"), (2, u "valuedSets"), (2, u "standingSets"), (2, u "increment"), (0, u "D"), (4, u "agents"), (3, u "I"), (12, u "lines"), (56, u "goodIds"), (0, u "[I"), (39, u "[[I"), (2, u "sets"), (31, u "sizes"), (2, u "holders"), (8, u "prices"), (0, u "[D"), (2, u "standing"), (0, u "[Z"), (30, u "timeUnits"), (0, u "J"), (2, u "winning"), (2, u "revenue"), (14, u "nodes"), (2, u "searches"), (40, u "spread"), (0, u "(D[D[D)[D"), (19, u "DEFAULT_INCREMENT"), (3, u "NO_AGENT")] 51

def k2c0 : Code := { maxStack := 6, maxLocals := 14, code := prog_4_method_8_code, exceptionTable := #[], attributes := #[] }
def k2m0 : Method := { name := "spread", desc := "(D[D[D)[D", sig := { parameters := [.double, (.array .double), (.array .double)], returnType := some (.array .double) }, accessFlags := 8, code := some k2c0 }
/-- com/example/lotwise/lotwise/auction/PauseAuction -/
def k2 : Class := { plain "com/example/lotwise/lotwise/auction/PauseAuction" (some 0) with
  accessFlags := 49
  interfaces := #[]
  cf := some (fileOf pool2 11 #[] #[{ accessFlags := 8, nameIndex := 294, descriptorIndex := 295, attributes := #[] }] 49 2 #[] #[{ accessFlags := 25, nameIndex := 315, descriptorIndex := 25, attributes := #[] }, { accessFlags := 26, nameIndex := 319, descriptorIndex := 34, attributes := #[] }, { accessFlags := 18, nameIndex := 24, descriptorIndex := 25, attributes := #[] }, { accessFlags := 18, nameIndex := 30, descriptorIndex := 34, attributes := #[] }, { accessFlags := 18, nameIndex := 47, descriptorIndex := 15, attributes := #[] }, { accessFlags := 18, nameIndex := 104, descriptorIndex := 105, attributes := #[] }, { accessFlags := 18, nameIndex := 148, descriptorIndex := 145, attributes := #[] }, { accessFlags := 18, nameIndex := 14, descriptorIndex := 15, attributes := #[] }, { accessFlags := 18, nameIndex := 18, descriptorIndex := 15, attributes := #[] }, { accessFlags := 18, nameIndex := 180, descriptorIndex := 105, attributes := #[] }, { accessFlags := 18, nameIndex := 183, descriptorIndex := 105, attributes := #[] }, { accessFlags := 18, nameIndex := 192, descriptorIndex := 193, attributes := #[] }, { accessFlags := 18, nameIndex := 196, descriptorIndex := 197, attributes := #[] }, { accessFlags := 18, nameIndex := 21, descriptorIndex := 15, attributes := #[] }, { accessFlags := 2, nameIndex := 232, descriptorIndex := 105, attributes := #[] }, { accessFlags := 2, nameIndex := 235, descriptorIndex := 25, attributes := #[] }, { accessFlags := 2, nameIndex := 228, descriptorIndex := 229, attributes := #[] }, { accessFlags := 2, nameIndex := 250, descriptorIndex := 229, attributes := #[] }, { accessFlags := 2, nameIndex := 253, descriptorIndex := 229, attributes := #[] }])
  fields := #[{ name := "DEFAULT_INCREMENT", type := .double, accessFlags := 25, slot := 0, constantValue := 0 }, { name := "NO_AGENT", type := .int, accessFlags := 26, slot := 1, constantValue := 0 }, { name := "increment", type := .double, accessFlags := 18, slot := 0, constantValue := 0 }, { name := "agents", type := .int, accessFlags := 18, slot := 1, constantValue := 0 }, { name := "lines", type := (.object "java/util/List"), accessFlags := 18, slot := 2, constantValue := 0 }, { name := "goodIds", type := (.array .int), accessFlags := 18, slot := 3, constantValue := 0 }, { name := "sets", type := (.array (.array .int)), accessFlags := 18, slot := 4, constantValue := 0 }, { name := "linesOf", type := (.object "java/util/List"), accessFlags := 18, slot := 5, constantValue := 0 }, { name := "valuedSets", type := (.object "java/util/List"), accessFlags := 18, slot := 6, constantValue := 0 }, { name := "sizes", type := (.array .int), accessFlags := 18, slot := 7, constantValue := 0 }, { name := "holders", type := (.array .int), accessFlags := 18, slot := 8, constantValue := 0 }, { name := "prices", type := (.array .double), accessFlags := 18, slot := 9, constantValue := 0 }, { name := "standing", type := (.array .boolean), accessFlags := 18, slot := 10, constantValue := 0 }, { name := "standingSets", type := (.object "java/util/List"), accessFlags := 18, slot := 11, constantValue := 0 }, { name := "winning", type := (.array .int), accessFlags := 2, slot := 12, constantValue := 0 }, { name := "revenue", type := .double, accessFlags := 2, slot := 13, constantValue := 0 }, { name := "timeUnits", type := .long, accessFlags := 2, slot := 14, constantValue := 0 }, { name := "nodes", type := .long, accessFlags := 2, slot := 15, constantValue := 0 }, { name := "searches", type := .long, accessFlags := 2, slot := 16, constantValue := 0 }]
  methods := #[k2m0]
  instanceTypes := #[.double, .int, (.object "java/util/List"), (.array .int), (.array (.array .int)), (.object "java/util/List"), (.object "java/util/List"), (.array .int), (.array .int), (.array .double), (.array .boolean), (.object "java/util/List"), (.array .int), .double, .long, .long, .long]
  staticTypes := #[.double, .int]
  resolved := Array.replicate 371 none
  statics := none }

def pool3 : Array CpInfo := pool [(1, u "java/lang/Cloneable"), (0, .class_ 1), (0, u "java/lang/Object"), (0, .class_ 3)] 3

/-- java/lang/Cloneable -/
def k3 : Class := { plain "java/lang/Cloneable" (some 0) with
  accessFlags := 1537
  interfaces := #[]
  cf := some (fileOf pool3 2 #[] #[] 1537 4 #[] #[])
  fields := #[]
  methods := #[]
  instanceTypes := #[]
  staticTypes := #[]
  resolved := Array.replicate 8 none
  statics := none }

def pool4 : Array CpInfo := pool [(1, u "java/io/Serializable"), (0, .class_ 1), (0, u "java/lang/Object"), (0, .class_ 3)] 3

/-- java/io/Serializable -/
def k4 : Class := { plain "java/io/Serializable" (some 0) with
  accessFlags := 1537
  interfaces := #[]
  cf := some (fileOf pool4 2 #[] #[] 1537 4 #[] #[])
  fields := #[]
  methods := #[]
  instanceTypes := #[]
  staticTypes := #[]
  resolved := Array.replicate 8 none
  statics := none }

/-- the primitive byte -/
def k5 : Class := { plain "byte" none with kind := .primitive 'B', accessFlags := 0x411 }
/-- [B -/
def k6 : Class := { plain "[B" (some 0) with kind := .array 5 .byte, interfaces := #[3, 4], accessFlags := 1041 }

/-- the primitive double -/
def k7 : Class := { plain "double" none with kind := .primitive 'D', accessFlags := 0x411 }
/-- [D -/
def k8 : Class := { plain "[D" (some 0) with kind := .array 7 .double, interfaces := #[3, 4], accessFlags := 1041 }

/-- the primitive int -/
def k9 : Class := { plain "int" none with kind := .primitive 'I', accessFlags := 0x411 }
/-- [I -/
def k10 : Class := { plain "[I" (some 0) with kind := .array 9 .int, interfaces := #[3, 4], accessFlags := 1041 }

def heap : Heap := #[]
def classes : Array Class := #[k0, k1, k2, k3, k4, k5, k6, k7, k8, k9, k10]
def interned : List (Array UInt16 × Addr) := []
def slotsUsed : Nat := 0
def theMethod : MethodId := ⟨1, 1⟩
def args0 : Array Value := #[.int 3, .int 4, .long 5, .long 6, .long 7, .long 8]
def aboutOver (below : List Frame) : State where
  vm := { classes := classes, interned := interned.toArray }
  heap := heap
  slotsUsed := slotsUsed
  threads := #[{ frames := .invoking theMethod args0 :: below }]
def below0 : List Frame := [.native { method := ⟨0, 0⟩, args := #[] }]
def about1 : State := aboutOver below0
def p0 : Program := .bare "" "" ""
def e0 : Env := launch0.env 0 0 0
theorem w_frames : about1.frames = Frame.invoking theMethod args0 :: below0 := rfl
set_option maxRecDepth 65536 in
theorem w_args : argsFit about1.vm theMethod args0 = true := by decide +kernel
set_option maxRecDepth 65536 in
theorem w_heap : heapFits about1 = true := by decide +kernel
set_option maxRecDepth 65536 in
theorem w_runnable : about1.curStatus? = some .runnable := by decide +kernel
set_option maxRecDepth 65536 in
theorem w_alone : about1.alone = true := by decide +kernel
set_option maxRecDepth 65536 in
theorem w_named : about1.methodNamed? x = some theMethod := by decide +kernel
set_option maxRecDepth 65536 in
theorem w_hears : about1.hears theMethod below0 = true := by decide +kernel
set_option maxRecDepth 65536 in
theorem w_ripe : about1.ripe theMethod args0 below0 = true := by decide +kernel
theorem w_running : about1.status = .running := rfl
set_option maxRecDepth 65536 in
theorem w_room : about1.hasRoom e0.platform room_1 = true :=
  launch0.hasRoom_least _ room_1 (by decide +kernel) (by decide +kernel) (by decide +kernel) (by decide +kernel) (by decide +kernel) (by decide +kernel)
theorem allAtoms_all (ts : List Jvm.Cond) (a : Array Jvm.Value) (st : Jvm.State) : (allAtoms ts).before a st = ts.all (fun c => c.before a st) := by
  induction ts with
  | nil => rfl
  | cons c t ih =>
    show (Jvm.Cond.and c (allAtoms t)).before a st = _
    rw [Jvm.Cond.before_and, ih, List.all_cons]
def words1 : List Jvm.Cond := Jvm.Cond.code x code maxLocals ret :: tables_1
/-- a 'code' word, met by the world's own term for the bytes: nothing is compared byte by byte -/
theorem code_word {y : MethodName} {bytes : ByteArray} {mx : Nat} {rt : Option FieldType} {a : Array Value} {s : State} {m : MethodId} {meth : Method} {c : Code} (h1 : s.methodNamed? y = some m) (h2 : s.vm.method? m = some meth) (h3 : meth.code = some c) (h4 : c.code = bytes)
    (h5 : (c.maxLocals == mx && c.exceptionTable.isEmpty && decide (c.maxStack ≤ mostOperands) && decide (meth.sig.returnType = rt) && !meth.locks && decide (parseMethodDescriptor y.desc = some meth.sig)) = true) : (Jvm.Cond.code y bytes mx rt).before a s = true := by
  simp only [Bool.and_eq_true, beq_iff_eq, Bool.not_eq_true', decide_eq_true_eq] at h5
  obtain ⟨⟨⟨⟨⟨g1, g2⟩, g3⟩, g4⟩, g5⟩, g6⟩ := h5
  simp [Cond.before, Cond.holds, Cond.value, h1, h2, h3, h4, g1, g2, g3, g4, g5, g6]
def isCode : Jvm.Cond → Bool
  | .code _ _ _ _ => true
  | _ => false
theorem all_split {L : List Jvm.Cond} {P : Jvm.Cond → Bool} (h1 : L.all (fun c => isCode c || P c) = true) (h2 : ∀ c ∈ L.filter isCode, P c = true) : L.all P = true := by
  refine List.all_eq_true.mpr fun c hc => ?_
  have h := List.all_eq_true.mp h1 c hc
  rcases Bool.eq_false_or_eq_true (isCode c) with hi | hi
  · exact h2 c (List.mem_filter.mpr ⟨hc, hi⟩)
  · simpa [hi] using h
set_option maxRecDepth 65536 in
theorem w_c0 : (Jvm.Cond.code x code maxLocals ret).before args0 about1 = true := code_word (m := ⟨1, 1⟩) (meth := k1m1) (c := k1c1) (by decide +kernel) rfl rfl rfl (by decide +kernel)
set_option maxRecDepth 65536 in
theorem w_c1 : (Jvm.Cond.code ({ cls := "com/example/lotwise/lotwise/auction/PauseAuction", name := "spread", desc := "(D[D[D)[D" } : Jvm.MethodName) prog_4_method_8_code (14 : Nat) (Option.some (Jvm.ClassFile.FieldType.array Jvm.ClassFile.FieldType.double))).before args0 about1 = true := code_word (m := ⟨2, 0⟩) (meth := k2m0) (c := k2c0) (by decide +kernel) rfl rfl rfl (by decide +kernel)
set_option maxRecDepth 65536 in
theorem w_c2 : (Jvm.Cond.code ({ cls := "com/example/lotwise/lotwise/auction/PauseAuctionSpreadPinLaw", name := "expected", desc := "(DJIJJ)D" } : Jvm.MethodName) method_3_code (11 : Nat) (Option.some Jvm.ClassFile.FieldType.double)).before args0 about1 = true := code_word (m := ⟨1, 2⟩) (meth := k1m2) (c := k1c2) (by decide +kernel) rfl rfl rfl (by decide +kernel)
def codes1 : List Jvm.Cond := [Jvm.Cond.code x code maxLocals ret, Jvm.Cond.code ({ cls := "com/example/lotwise/lotwise/auction/PauseAuction", name := "spread", desc := "(D[D[D)[D" } : Jvm.MethodName) prog_4_method_8_code (14 : Nat) (Option.some (Jvm.ClassFile.FieldType.array Jvm.ClassFile.FieldType.double)), Jvm.Cond.code ({ cls := "com/example/lotwise/lotwise/auction/PauseAuctionSpreadPinLaw", name := "expected", desc := "(DJIJJ)D" } : Jvm.MethodName) method_3_code (11 : Nat) (Option.some Jvm.ClassFile.FieldType.double)]
set_option maxRecDepth 65536 in
theorem codes_eq : words1.filter isCode = codes1 := rfl
theorem w_codes : ∀ c ∈ words1.filter isCode, c.before args0 about1 = true := by
  rw [codes_eq]
  intro c hc
  simp only [codes1, List.mem_cons, List.not_mem_nil, or_false] at hc
  rcases hc with rfl | rfl | rfl
  · exact w_c0
  · exact w_c1
  · exact w_c2
set_option maxRecDepth 65536 in
theorem w_t1 : words1.all (fun c => isCode c || c.before args0 about1) = true := by decide +kernel
theorem w_tables : (allAtoms (Jvm.Cond.code x code maxLocals ret :: tables_1)).before args0 about1 = true := by
  rw [allAtoms_all]
  show words1.all (fun c => c.before args0 about1) = true
  refine all_split ?_ w_codes
  rw [w_t1]
set_option maxRecDepth 65536 in
theorem w_case : (Jvm.Cond.and given_1 narrow_1).before args0 about1 = true := by decide +kernel
theorem w_applies : (headSpec (Jvm.Cond.code x code maxLocals ret :: tables_1) room_1).applies x e0.platform about1 = true :=
  (Spec.applies_iff w_frames).mpr ⟨w_running, w_runnable, w_alone, w_named, w_hears, w_ripe, w_room, w_tables⟩
theorem atStart : AtStart classFile x code maxLocals ret World_1 tables_1 room_1 Calls_1 rest_1 Pre_1 launch0 p0 e0 about1 theMethod args0 below0 :=
  ⟨lists_1, trivial, launch0.admits_env _ _ _, launch0.least_env, fairChoices_fair.cas, fairChoices_fair.clock, w_frames, w_args, w_heap, w_applies, trivial, trivial, w_case⟩
end start1
theorem witness_1 : WitnessClaimed_1 := ⟨start1.p0, start1.e0, start1.about1, start1.theMethod, start1.args0, start1.below0, start1.atStart⟩
end Jvm.Pilot.@@N@@
