import JvmDerived
import JvmDerived.Pilot.@@N@@Statement
import JvmDerived.Pilot.@@N@@Code
set_option linter.unusedVariables false
set_option linter.unusedSimpArgs false
namespace Jvm.Pilot.@@N@@
open Jvm Jvm.ClassFile Sem Op Lib Jvm.Free Jvm.Stand Jvm.LawKit Jvm.RoadKit Bundle Jvm.Pilot.@@N@@.Jvm.D
/-! OWN PRELUDE. What the walk knows of the objects that it made: a list of (address, what stands there): an array with its components, or an object with its fields. -/
abbrev oDsc : Type := Sum (FieldType × List Value) (String × List (String × String × String × Value))
abbrev oDs : Type := List (Addr × oDsc)
def oAt (Z : State) (h : Heap) (a : Addr) (d : oDsc) : Prop := match d with
  | .inl (ty, vs) => ∃ c : Cell, Arr Z h a c ty ∧ c.slots = vs.toArray
  | .inr (C, fs) => Exa Z h a C ∧ ∀ f ∈ fs, Fld Z h a f.1 f.2.1 f.2.2.1 f.2.2.2
def oMem (Z : State) (h0 h : Heap) (ds : oDs) : Prop :=
  Ext h0 h ∧ (∀ (i j : Nat) (x y : Addr × oDsc), i < j → ds[i]? = some x → ds[j]? = some y → x.1 < y.1) ∧ ∀ (i : Nat) (x : Addr × oDsc), ds[i]? = some x → h0.size ≤ x.1 ∧ oAt Z h x.1 x.2
theorem oExt_refl (h : Heap) : Ext h h := ⟨Nat.le_refl _, fun _ _ q => q⟩
theorem oMem.start (Z : State) (h : Heap) : oMem Z h h [] := ⟨oExt_refl h, fun _ _ _ _ _ q => by simp at q, fun _ _ q => by simp at q⟩
theorem oAt.lt {Z : State} {h : Heap} {a : Addr} {d : oDsc} (A : oAt Z h a d) : a < h.size := by
  rcases d with ⟨ty, vs⟩ | ⟨C, fs⟩
  · obtain ⟨c, A, -⟩ := A; exact A.lt
  · exact A.1.lt
theorem oAt.ext {Z : State} {h h' : Heap} {a : Addr} {d : oDsc} (A : oAt Z h a d) (E : Ext h h') : oAt Z h' a d := by
  rcases d with ⟨ty, vs⟩ | ⟨C, fs⟩
  · obtain ⟨c, A, q⟩ := A; exact ⟨c, A.ext E, q⟩
  · exact ⟨A.1.ext E, fun f hf => (A.2 f hf).ext E⟩
theorem oAt.other {Z : State} {h h' : Heap} {a b : Addr} {sl : Nat} {v : Value} {d : oDsc} (A : oAt Z h b d) (W : Wr h h' a sl v) (q : b ≠ a) : oAt Z h' b d := by
  rcases d with ⟨ty, vs⟩ | ⟨C, fs⟩
  · obtain ⟨c, A, r⟩ := A; exact ⟨c, A.other W q, r⟩
  · exact ⟨A.1.wr W, fun f hf => (A.2 f hf).other W (Or.inl q)⟩
theorem oMem.push {Z : State} {h0 h h' : Heap} {ds : oDs} {d : oDsc} (M : oMem Z h0 h ds) (E : Ext h h') (A : oAt Z h' h.size d) : oMem Z h0 h' (ds ++ [(h.size, d)]) := by
  obtain ⟨M1, M2, M3⟩ := M
  refine ⟨⟨Nat.le_trans M1.1 E.1, fun a c q => E.2 a c (M1.2 a c q)⟩, fun i j x y hij hi hj => ?_, fun i x hi => ?_⟩
  · rw [List.getElem?_append] at hi hj
    split at hj
    · rw [if_pos (by omega)] at hi; exact M2 i j x y hij hi hj
    · rename_i nj
      have hjl : j - ds.length = 0 := by
        rcases Nat.eq_zero_or_pos (j - ds.length) with q | q
        · exact q
        · rw [List.getElem?_eq_none (by simp; omega)] at hj; cases hj
      rw [hjl] at hj; cases hj
      rw [if_pos (by omega)] at hi
      exact (M3 i x hi).2.lt
  · rw [List.getElem?_append] at hi
    split at hi
    · exact ⟨(M3 i x hi).1, (M3 i x hi).2.ext E⟩
    · rename_i ni
      have hil : i - ds.length = 0 := by
        rcases Nat.eq_zero_or_pos (i - ds.length) with q | q
        · exact q
        · rw [List.getElem?_eq_none (by simp; omega)] at hi; cases hi
      rw [hil] at hi; cases hi
      exact ⟨M1.1, A⟩
theorem oMem.put {Z : State} {h0 h h' : Heap} {ds : oDs} {i : Nat} {a : Addr} {d d' : oDsc} {sl : Nat} {v : Value} (M : oMem Z h0 h ds) (hi : ds[i]? = some (a, d)) (W : Wr h h' a sl v) (A : oAt Z h' a d') : oMem Z h0 h' (ds.set i (a, d')) := by
  obtain ⟨M1, M2, M3⟩ := M
  have ha := (M3 i _ hi).1
  have hlt : i < ds.length := (List.getElem?_eq_some_iff.mp hi).1
  have fst : ∀ (j : Nat) (x : Addr × oDsc), (ds.set i (a, d'))[j]? = some x → ∃ y : Addr × oDsc, ds[j]? = some y ∧ y.1 = x.1 := fun j x hx => by
    rw [List.getElem?_set] at hx
    split at hx
    · rename_i e; subst e; cases hx; exact ⟨_, hi, rfl⟩
    · exact ⟨x, hx, rfl⟩
  refine ⟨⟨Nat.le_trans M1.1 (Nat.le_of_eq W.size.symm), fun x c q => ?_⟩, fun j k x y hjk hj hk => ?_, fun j x hx => ?_⟩
  · obtain ⟨c', q1, -, -, -, q5, -⟩ := wr_at W (M1.2 x c q)
    have : x ≠ a := Nat.ne_of_lt (Nat.lt_of_lt_of_le (Array.getElem?_eq_some_iff.mp q).1 ha)
    rw [← q5 this]; exact q1
  · obtain ⟨x', hx', ex⟩ := fst j x hj
    obtain ⟨y', hy', ey⟩ := fst k y hk
    rw [← ex, ← ey]; exact M2 j k x' y' hjk hx' hy'
  · rw [List.getElem?_set] at hx
    split at hx
    · rename_i e; subst e; cases hx; exact ⟨ha, A⟩
    · rename_i e
      refine ⟨(M3 j x hx).1, (M3 j x hx).2.other W fun q => ?_⟩
      rcases Nat.lt_or_gt_of_ne e with r | r
      · have := M2 i j _ _ r hi hx; rw [q] at this; exact Nat.lt_irrefl _ this
      · have := M2 j i _ _ r hx hi; rw [q] at this; exact Nat.lt_irrefl _ this
/-- the fields' places are unlike -/
def oApart (Z : State) (fs : List (String × String × String × Value)) : Prop :=
  ∀ (i j : Nat) (f g : String × String × String × Value), i ≠ j → fs[i]? = some f → fs[j]? = some g → Jvm.RoadKit.slotOf Z f.1 f.2.1 f.2.2.1 ≠ Jvm.RoadKit.slotOf Z g.1 g.2.1 g.2.2.1
theorem oApart.of {Z : State} {a0 : Array Value} {C : String} {fs : List (String × String × String × Value)} (hL : ∀ f ∈ fs, Laid Z a0 C f.1 f.2.1 f.2.2.1 ∧ ∃ t, parseFieldDescriptor f.2.2.1 = some t) (hn : (fs.map fun f => f.2.1).Nodup) : oApart Z fs := fun i j f g hij hi hj => by
  obtain ⟨L1, t1, p1⟩ := hL f (List.mem_of_getElem? hi)
  obtain ⟨L2, t2, p2⟩ := hL g (List.mem_of_getElem? hj)
  refine slot_ne L1 L2 (fun q => hij ?_) p1 p2
  have e1 : (fs.map fun f => f.2.1)[i]? = some f.2.1 := by rw [List.getElem?_map, hi]; rfl
  have e2 : (fs.map fun f => f.2.1)[j]? = some g.2.1 := by rw [List.getElem?_map, hj]; rfl
  rw [q] at e1
  have l1 := (List.getElem?_eq_some_iff.mp e1).1
  exact (List.getElem?_inj l1 hn).mp (e1.trans e2.symm)
/-- what a walk's texts share: the machine, the tables, the body's bytes, its class, its result's type, its name -/
def oK (p : Program) (s : State) (m : MethodId) (meth : Method) (c : Code) (Z : State) (own : String) (by0 : ByteArray) (ml : Nat) (ret : Option FieldType) (nm : String) : Prop :=
  (p.tables.exec = Jvm.exec ∧ Z.Warmed39 s.vm ∧ c.code = by0 ∧ c.maxLocals = ml) ∧ s.vm.findClass own = some m.cls ∧ meth.sig.returnType = ret ∧ meth.locks = false ∧ meth.name = nm
/-- the walk stands at T, knows ds of what it made, and has booked cells and slots -/
def oIn (p : Program) (l : Launch) (e : Env) (R : Room) (s : State) (m : MethodId) (args : Array Value) (below : List Frame) (meth : Method) (c : Code) (Z : State) (h0 : Heap) (T : State) (ds : oDs) (cells slots : Nat) : Prop :=
  ∃ locs, Stand p l e R s m args below meth c T locs cells slots ∧ Fr h0.size locs ∧ oMem Z h0 T.heap ds
/-- the run from T with the frame g returns, and P holds of what it returns and of what it leaves -/
def oEnds (p : Program) (e : Env) (R : Room) (s : State) (below : List Frame) (Z : State) (h0 : Heap) (P : Option Value → oDs → Prop) (T : State) (g : JFrame) : Prop :=
  ∃ s₂ o, Steps p.tables e below (T.setTop g) s₂ ∧ s₂.status = .running ∧ Ended s₂ below o ∧ ∃ v L, o = .returned v ∧ (Fr h0.size L ∧ ∃ ds', P v ds' ∧ oMem Z h0 s₂.heap ds') ∧ FrameEnd s o s₂ L R.cells R.slots
/-- from every state that knows ds, at pc with these locals and this stack, the body returns as P says -/
def oW (p : Program) (l : Launch) (e : Env) (R : Room) (s : State) (m : MethodId) (args : Array Value) (below : List Frame) (meth : Method) (c : Code) (Z : State) (h0 : Heap) (P : Option Value → oDs → Prop) (ds : oDs) (cells slots pc : Nat) (Ls : Array Slot) (S : List Value) : Prop :=
  ∀ T, oIn p l e R s m args below meth c Z h0 T ds cells slots → oEnds p e R s below Z h0 P T (mkF m pc Ls S)
/-- a body's contract: called with as' where the objects made are ds, it returns as P says, within the room rm -/
def oCtr (l : Launch) (Z : State) (h0 : Heap) (ws : List Jvm.Cond) (y : MethodName) (by0 : ByteArray) (ml : Nat) (ret : Option FieldType) (rm : Room) (as' : Array Value) (ds : oDs) (P : Option Value → oDs → Prop) : Prop :=
  ∀ h, oMem Z h0 h ds → MetFree l y (head1 (Jvm.Cond.code y by0 ml ret :: ws) rm) (fun a U => a = as' ∧ Z.Warmed39 U.vm ∧ U.heap = h) (fun _ _ _ _ _ => True)
    (fun _ U o U' => ∃ v L, o = .returned v ∧ (Fr h0.size L ∧ ∃ ds', P v ds' ∧ oMem Z h0 U'.heap ds') ∧ FrameEnd U o U' L rm.cells rm.slots)
def oVal (P2 : Value → oDs → Prop) (v : Option Value) (ds : oDs) : Prop := ∃ w, v = some w ∧ P2 w ds
def oVoid (P3 : oDs → Prop) (v : Option Value) (ds : oDs) : Prop := v = none ∧ P3 ds
theorem oCtr.of {l : Launch} {Z : State} {h0 : Heap} {ws : List Jvm.Cond} {y : MethodName} {by0 : ByteArray} {ml : Nat} {ret : Option FieldType} {rm : Room} {as' : Array Value} {ds : oDs} {P : Option Value → oDs → Prop} {Ls : Array Slot}
    (hpl : plainFor y = true) (hef : ∀ m, entryFrame m as' ml = mkF m 0 Ls [])
    (hb : ∀ p e s m below meth c, oK p s m meth c Z y.cls by0 ml ret y.name → oW p l e rm s m as' below meth c Z h0 P ds 0 0 0 Ls []) : oCtr l Z h0 ws y by0 ml ret rm as' ds P := by
  intro h M
  refine MetFree.of_bodySF hpl hisR ?_
  intro p e s m args below meth c s₁ Bd hml0 hP hK
  obtain ⟨rfl, hZ, hh⟩ := hP
  have e0 : s₁.heap = h := by rw [← hh, Bd.state]; rfl
  have K : oK p s m meth c Z y.cls by0 ml ret y.name := ⟨⟨Bd.exec, hZ, Bd.bytes, hml0⟩, findClass_of_methodNamed Bd.named, Bd.returns, Bd.notSynchronized, (name_of_methodNamed Bd.named Bd.method).1⟩
  obtain ⟨s₂, o, h1, h2⟩ := hb p e s m below meth c K s₁ ⟨[], Stand.of_body Bd, Fr.nil _, by rw [e0]; exact M⟩
  exact ⟨s₂, o, castTop (hef m) h1, h2⟩
section Steps
variable {p : Program} {l : Launch} {e : Env} {R : Room} {s : State} {m : MethodId} {args : Array Value} {below : List Frame} {meth : Method} {c : Code} {Z : State} {h0 : Heap} {own nm : String} {by0 : ByteArray} {ml : Nat} {ret : Option FieldType} {P : Option Value → oDs → Prop} {ds ds' : oDs} {cells slots pc pc' : Nat} {Ls Ls' : Array Slot} {S S' : List Value} {a0 : Array Value}
theorem oW.pure (st : ∀ T locs, Stand p l e R s m args below meth c T locs cells slots → ∀ t, Steps p.tables e below (T.setTop (mkF m pc' Ls' S')) t → Steps p.tables e below (T.setTop (mkF m pc Ls S)) t) (hr : oW p l e R s m args below meth c Z h0 P ds cells slots pc' Ls' S') : oW p l e R s m args below meth c Z h0 P ds cells slots pc Ls S := by
  rintro T ⟨locs, X, N, M⟩
  obtain ⟨s₂, o, h1, h2⟩ := hr T ⟨locs, X, N, M⟩
  exact ⟨s₂, o, st T locs X _ h1, h2⟩
theorem oW.ends {T T' : State} {g g' : JFrame} (st : ∀ t, Steps p.tables e below (T'.setTop g') t → Steps p.tables e below (T.setTop g) t) (hr : oEnds p e R s below Z h0 P T' g') : oEnds p e R s below Z h0 P T g := by
  obtain ⟨s₂, o, h1, h2⟩ := hr
  exact ⟨s₂, o, st _ h1, h2⟩
theorem oW.join {α : Type} {F : α → Prop} {pcj : Nat} {Lf : α → Array Slot} {Sf : α → List Value} {dsf : α → oDs} (h1 : (∀ z, F z → oW p l e R s m args below meth c Z h0 P (dsf z) cells slots pcj (Lf z) (Sf z)) → oW p l e R s m args below meth c Z h0 P ds cells slots pc Ls S) (h2 : ∀ z, F z → oW p l e R s m args below meth c Z h0 P (dsf z) cells slots pcj (Lf z) (Sf z)) : oW p l e R s m args below meth c Z h0 P ds cells slots pc Ls S := h1 h2
theorem oW.iload (K : oK p s m meth c Z own by0 ml ret nm) {k : Nat} {v : Int32} (hd : decode by0 pc = .ok (.iload k, 2)) (hl : Ls[k]? = some (.val (.int v))) (hp : pc + 2 = pc') (hr : oW p l e R s m args below meth c Z h0 P ds cells slots pc' Ls (.int v :: S)) : oW p l e R s m args below meth c Z h0 P ds cells slots pc Ls (S) := by
  subst hp
  exact oW.pure (fun T locs X t k => XS.iload X.here K.1.1 rfl (hb K.1.2.2.1 hd) hl k) hr
theorem oW.iloadN (K : oK p s m meth c Z own by0 ml ret nm) {k : Fin 4} {v : Int32} (hd : decode by0 pc = .ok (.iload_n k, 1)) (hl : Ls[k.val]? = some (.val (.int v))) (hp : pc + 1 = pc') (hr : oW p l e R s m args below meth c Z h0 P ds cells slots pc' Ls (.int v :: S)) : oW p l e R s m args below meth c Z h0 P ds cells slots pc Ls (S) := by
  subst hp
  exact oW.pure (fun T locs X t k => XS.iloadN X.here K.1.1 rfl (hb K.1.2.2.1 hd) hl k) hr
theorem oW.istore (K : oK p s m meth c Z own by0 ml ret nm) {k : Nat} {v : Int32} (hd : decode by0 pc = .ok (.istore k, 2)) (hl : storeLocals Ls k (.int v) = some Ls') (hp : pc + 2 = pc') (hr : oW p l e R s m args below meth c Z h0 P ds cells slots pc' Ls' (S)) : oW p l e R s m args below meth c Z h0 P ds cells slots pc Ls (.int v :: S) := by
  subst hp
  exact oW.pure (fun T locs X t k => XS.istore X.here K.1.1 rfl (hb K.1.2.2.1 hd) rfl hl k) hr
theorem oW.istoreN (K : oK p s m meth c Z own by0 ml ret nm) {k : Fin 4} {v : Int32} (hd : decode by0 pc = .ok (.istore_n k, 1)) (hl : storeLocals Ls k.val (.int v) = some Ls') (hp : pc + 1 = pc') (hr : oW p l e R s m args below meth c Z h0 P ds cells slots pc' Ls' (S)) : oW p l e R s m args below meth c Z h0 P ds cells slots pc Ls (.int v :: S) := by
  subst hp
  exact oW.pure (fun T locs X t k => XS.istoreN X.here K.1.1 rfl (hb K.1.2.2.1 hd) rfl hl k) hr
theorem oW.lload (K : oK p s m meth c Z own by0 ml ret nm) {k : Nat} {v : Int64} (hd : decode by0 pc = .ok (.lload k, 2)) (hl : Ls[k]? = some (.val (.long v))) (hp : pc + 2 = pc') (hr : oW p l e R s m args below meth c Z h0 P ds cells slots pc' Ls (.long v :: S)) : oW p l e R s m args below meth c Z h0 P ds cells slots pc Ls (S) := by
  subst hp
  exact oW.pure (fun T locs X t k => XS.lload X.here K.1.1 rfl (hb K.1.2.2.1 hd) hl k) hr
theorem oW.lloadN (K : oK p s m meth c Z own by0 ml ret nm) {k : Fin 4} {v : Int64} (hd : decode by0 pc = .ok (.lload_n k, 1)) (hl : Ls[k.val]? = some (.val (.long v))) (hp : pc + 1 = pc') (hr : oW p l e R s m args below meth c Z h0 P ds cells slots pc' Ls (.long v :: S)) : oW p l e R s m args below meth c Z h0 P ds cells slots pc Ls (S) := by
  subst hp
  exact oW.pure (fun T locs X t k => XS.lloadN X.here K.1.1 rfl (hb K.1.2.2.1 hd) hl k) hr
theorem oW.lstore (K : oK p s m meth c Z own by0 ml ret nm) {k : Nat} {v : Int64} (hd : decode by0 pc = .ok (.lstore k, 2)) (hl : storeLocals Ls k (.long v) = some Ls') (hp : pc + 2 = pc') (hr : oW p l e R s m args below meth c Z h0 P ds cells slots pc' Ls' (S)) : oW p l e R s m args below meth c Z h0 P ds cells slots pc Ls (.long v :: S) := by
  subst hp
  exact oW.pure (fun T locs X t k => XS.lstore X.here K.1.1 rfl (hb K.1.2.2.1 hd) rfl hl k) hr
theorem oW.lstoreN (K : oK p s m meth c Z own by0 ml ret nm) {k : Fin 4} {v : Int64} (hd : decode by0 pc = .ok (.lstore_n k, 1)) (hl : storeLocals Ls k.val (.long v) = some Ls') (hp : pc + 1 = pc') (hr : oW p l e R s m args below meth c Z h0 P ds cells slots pc' Ls' (S)) : oW p l e R s m args below meth c Z h0 P ds cells slots pc Ls (.long v :: S) := by
  subst hp
  exact oW.pure (fun T locs X t k => XS.lstoreN X.here K.1.1 rfl (hb K.1.2.2.1 hd) rfl hl k) hr
theorem oW.dload (K : oK p s m meth c Z own by0 ml ret nm) {k : Nat} {v : UInt64} (hd : decode by0 pc = .ok (.dload k, 2)) (hl : Ls[k]? = some (.val (.double v))) (hp : pc + 2 = pc') (hr : oW p l e R s m args below meth c Z h0 P ds cells slots pc' Ls (.double v :: S)) : oW p l e R s m args below meth c Z h0 P ds cells slots pc Ls (S) := by
  subst hp
  exact oW.pure (fun T locs X t k => XS.dload X.here K.1.1 rfl (hb K.1.2.2.1 hd) hl k) hr
theorem oW.dloadN (K : oK p s m meth c Z own by0 ml ret nm) {k : Fin 4} {v : UInt64} (hd : decode by0 pc = .ok (.dload_n k, 1)) (hl : Ls[k.val]? = some (.val (.double v))) (hp : pc + 1 = pc') (hr : oW p l e R s m args below meth c Z h0 P ds cells slots pc' Ls (.double v :: S)) : oW p l e R s m args below meth c Z h0 P ds cells slots pc Ls (S) := by
  subst hp
  exact oW.pure (fun T locs X t k => XS.dloadN X.here K.1.1 rfl (hb K.1.2.2.1 hd) hl k) hr
theorem oW.dstore (K : oK p s m meth c Z own by0 ml ret nm) {k : Nat} {v : UInt64} (hd : decode by0 pc = .ok (.dstore k, 2)) (hl : storeLocals Ls k (.double v) = some Ls') (hp : pc + 2 = pc') (hr : oW p l e R s m args below meth c Z h0 P ds cells slots pc' Ls' (S)) : oW p l e R s m args below meth c Z h0 P ds cells slots pc Ls (.double v :: S) := by
  subst hp
  exact oW.pure (fun T locs X t k => XS.dstore X.here K.1.1 rfl (hb K.1.2.2.1 hd) rfl hl k) hr
theorem oW.dstoreN (K : oK p s m meth c Z own by0 ml ret nm) {k : Fin 4} {v : UInt64} (hd : decode by0 pc = .ok (.dstore_n k, 1)) (hl : storeLocals Ls k.val (.double v) = some Ls') (hp : pc + 1 = pc') (hr : oW p l e R s m args below meth c Z h0 P ds cells slots pc' Ls' (S)) : oW p l e R s m args below meth c Z h0 P ds cells slots pc Ls (.double v :: S) := by
  subst hp
  exact oW.pure (fun T locs X t k => XS.dstoreN X.here K.1.1 rfl (hb K.1.2.2.1 hd) rfl hl k) hr
theorem oW.aload (K : oK p s m meth c Z own by0 ml ret nm) {k : Nat} {v : Value} (hd : decode by0 pc = .ok (.aload k, 2)) (hl : Ls[k]? = some (.val v)) (hv : v.isRef = true) (hp : pc + 2 = pc') (hr : oW p l e R s m args below meth c Z h0 P ds cells slots pc' Ls (v :: S)) : oW p l e R s m args below meth c Z h0 P ds cells slots pc Ls (S) := by
  subst hp
  exact oW.pure (fun T locs X t k => XS.aload X.here K.1.1 rfl (hb K.1.2.2.1 hd) hl hv k) hr
theorem oW.aloadN (K : oK p s m meth c Z own by0 ml ret nm) {k : Fin 4} {v : Value} (hd : decode by0 pc = .ok (.aload_n k, 1)) (hl : Ls[k.val]? = some (.val v)) (hv : v.isRef = true) (hp : pc + 1 = pc') (hr : oW p l e R s m args below meth c Z h0 P ds cells slots pc' Ls (v :: S)) : oW p l e R s m args below meth c Z h0 P ds cells slots pc Ls (S) := by
  subst hp
  exact oW.pure (fun T locs X t k => XS.aloadN X.here K.1.1 rfl (hb K.1.2.2.1 hd) hl hv k) hr
theorem oW.astore (K : oK p s m meth c Z own by0 ml ret nm) {k : Nat} {v : Value} (hd : decode by0 pc = .ok (.astore k, 2)) (hv : v.isRef = true) (hl : storeLocals Ls k v = some Ls') (hp : pc + 2 = pc') (hr : oW p l e R s m args below meth c Z h0 P ds cells slots pc' Ls' (S)) : oW p l e R s m args below meth c Z h0 P ds cells slots pc Ls (v :: S) := by
  subst hp
  exact oW.pure (fun T locs X t k => XS.astore X.here K.1.1 rfl (hb K.1.2.2.1 hd) rfl hv hl k) hr
theorem oW.astoreN (K : oK p s m meth c Z own by0 ml ret nm) {k : Fin 4} {v : Value} (hd : decode by0 pc = .ok (.astore_n k, 1)) (hv : v.isRef = true) (hl : storeLocals Ls k.val v = some Ls') (hp : pc + 1 = pc') (hr : oW p l e R s m args below meth c Z h0 P ds cells slots pc' Ls' (S)) : oW p l e R s m args below meth c Z h0 P ds cells slots pc Ls (v :: S) := by
  subst hp
  exact oW.pure (fun T locs X t k => XS.astoreN X.here K.1.1 rfl (hb K.1.2.2.1 hd) rfl hv hl k) hr
theorem oW.aconstNull (K : oK p s m meth c Z own by0 ml ret nm)  (hd : decode by0 pc = .ok (.aconst_null, 1))  (hp : pc + 1 = pc') (hr : oW p l e R s m args below meth c Z h0 P ds cells slots pc' Ls (.null :: S)) : oW p l e R s m args below meth c Z h0 P ds cells slots pc Ls (S) := by
  subst hp
  exact oW.pure (fun T locs X t k => XS.aconstNull X.here K.1.1 rfl (hb K.1.2.2.1 hd) k) hr
theorem oW.iconst (K : oK p s m meth c Z own by0 ml ret nm) {i : Int} {v : Int32} (hd : decode by0 pc = .ok (.iconst i, 1)) (hv : v = Int32.ofInt i) (hp : pc + 1 = pc') (hr : oW p l e R s m args below meth c Z h0 P ds cells slots pc' Ls (.int v :: S)) : oW p l e R s m args below meth c Z h0 P ds cells slots pc Ls (S) := by
  subst hp hv
  exact oW.pure (fun T locs X t k => XS.iconst X.here K.1.1 rfl (hb K.1.2.2.1 hd) k) hr
theorem oW.bipush (K : oK p s m meth c Z own by0 ml ret nm) {i : Int} {v : Int32} (hd : decode by0 pc = .ok (.bipush i, 2)) (hv : v = (Int8.ofInt i).toInt32) (hp : pc + 2 = pc') (hr : oW p l e R s m args below meth c Z h0 P ds cells slots pc' Ls (.int v :: S)) : oW p l e R s m args below meth c Z h0 P ds cells slots pc Ls (S) := by
  subst hp hv
  exact oW.pure (fun T locs X t k => XS.bipush X.here K.1.1 rfl (hb K.1.2.2.1 hd) k) hr
theorem oW.sipush (K : oK p s m meth c Z own by0 ml ret nm) {i : Int} {v : Int32} (hd : decode by0 pc = .ok (.sipush i, 3)) (hv : v = (Int16.ofInt i).toInt32) (hp : pc + 3 = pc') (hr : oW p l e R s m args below meth c Z h0 P ds cells slots pc' Ls (.int v :: S)) : oW p l e R s m args below meth c Z h0 P ds cells slots pc Ls (S) := by
  subst hp hv
  exact oW.pure (fun T locs X t k => XS.sipush X.here K.1.1 rfl (hb K.1.2.2.1 hd) k) hr
theorem oW.lconst (K : oK p s m meth c Z own by0 ml ret nm) {k : Fin 2} {v : Int64} (hd : decode by0 pc = .ok (.lconst k, 1)) (hv : v = Int64.ofNat k.val) (hp : pc + 1 = pc') (hr : oW p l e R s m args below meth c Z h0 P ds cells slots pc' Ls (.long v :: S)) : oW p l e R s m args below meth c Z h0 P ds cells slots pc Ls (S) := by
  subst hp hv
  exact oW.pure (fun T locs X t k => XT.lconst X.here K.1.1 rfl (hb K.1.2.2.1 hd) k) hr
theorem oW.dconst0 (K : oK p s m meth c Z own by0 ml ret nm)  (hd : decode by0 pc = .ok (.dconst 0, 1))  (hp : pc + 1 = pc') (hr : oW p l e R s m args below meth c Z h0 P ds cells slots pc' Ls (.double 0 :: S)) : oW p l e R s m args below meth c Z h0 P ds cells slots pc Ls (S) := by
  subst hp
  exact oW.pure (fun T locs X t k => XS.dconst0 X.here K.1.1 rfl (hb K.1.2.2.1 hd) rfl k) hr
theorem oW.dconst1 (K : oK p s m meth c Z own by0 ml ret nm)  (hd : decode by0 pc = .ok (.dconst 1, 1))  (hp : pc + 1 = pc') (hr : oW p l e R s m args below meth c Z h0 P ds cells slots pc' Ls (.double 4607182418800017408 :: S)) : oW p l e R s m args below meth c Z h0 P ds cells slots pc Ls (S) := by
  subst hp
  exact oW.pure (fun T locs X t k => XS.dconst1 X.here K.1.1 rfl (hb K.1.2.2.1 hd) rfl k) hr
theorem oW.iadd (K : oK p s m meth c Z own by0 ml ret nm) {x y v : Int32} (hd : decode by0 pc = .ok (.iadd, 1)) (hv : v = x + y) (hp : pc + 1 = pc') (hr : oW p l e R s m args below meth c Z h0 P ds cells slots pc' Ls (.int v :: S)) : oW p l e R s m args below meth c Z h0 P ds cells slots pc Ls (.int y :: .int x :: S) := by
  subst hp hv
  exact oW.pure (fun T locs X t k => XS.iadd X.here K.1.1 rfl (hb K.1.2.2.1 hd) rfl k) hr
theorem oW.ladd (K : oK p s m meth c Z own by0 ml ret nm) {x y v : Int64} (hd : decode by0 pc = .ok (.ladd, 1)) (hv : v = x + y) (hp : pc + 1 = pc') (hr : oW p l e R s m args below meth c Z h0 P ds cells slots pc' Ls (.long v :: S)) : oW p l e R s m args below meth c Z h0 P ds cells slots pc Ls (.long y :: .long x :: S) := by
  subst hp hv
  exact oW.pure (fun T locs X t k => XT.ladd X.here K.1.1 rfl (hb K.1.2.2.1 hd) rfl k) hr
theorem oW.isub (K : oK p s m meth c Z own by0 ml ret nm) {x y v : Int32} (hd : decode by0 pc = .ok (.isub, 1)) (hv : v = x - y) (hp : pc + 1 = pc') (hr : oW p l e R s m args below meth c Z h0 P ds cells slots pc' Ls (.int v :: S)) : oW p l e R s m args below meth c Z h0 P ds cells slots pc Ls (.int y :: .int x :: S) := by
  subst hp hv
  exact oW.pure (fun T locs X t k => XS.isub X.here K.1.1 rfl (hb K.1.2.2.1 hd) rfl k) hr
theorem oW.lsub (K : oK p s m meth c Z own by0 ml ret nm) {x y v : Int64} (hd : decode by0 pc = .ok (.lsub, 1)) (hv : v = x - y) (hp : pc + 1 = pc') (hr : oW p l e R s m args below meth c Z h0 P ds cells slots pc' Ls (.long v :: S)) : oW p l e R s m args below meth c Z h0 P ds cells slots pc Ls (.long y :: .long x :: S) := by
  subst hp hv
  exact oW.pure (fun T locs X t k => XT.lsub X.here K.1.1 rfl (hb K.1.2.2.1 hd) rfl k) hr
theorem oW.imul (K : oK p s m meth c Z own by0 ml ret nm) {x y v : Int32} (hd : decode by0 pc = .ok (.imul, 1)) (hv : v = x * y) (hp : pc + 1 = pc') (hr : oW p l e R s m args below meth c Z h0 P ds cells slots pc' Ls (.int v :: S)) : oW p l e R s m args below meth c Z h0 P ds cells slots pc Ls (.int y :: .int x :: S) := by
  subst hp hv
  exact oW.pure (fun T locs X t k => XS.imul X.here K.1.1 rfl (hb K.1.2.2.1 hd) rfl k) hr
theorem oW.lmul (K : oK p s m meth c Z own by0 ml ret nm) {x y v : Int64} (hd : decode by0 pc = .ok (.lmul, 1)) (hv : v = x * y) (hp : pc + 1 = pc') (hr : oW p l e R s m args below meth c Z h0 P ds cells slots pc' Ls (.long v :: S)) : oW p l e R s m args below meth c Z h0 P ds cells slots pc Ls (.long y :: .long x :: S) := by
  subst hp hv
  exact oW.pure (fun T locs X t k => XT.lmul X.here K.1.1 rfl (hb K.1.2.2.1 hd) rfl k) hr
theorem oW.iand (K : oK p s m meth c Z own by0 ml ret nm) {x y v : Int32} (hd : decode by0 pc = .ok (.iand, 1)) (hv : v = x &&& y) (hp : pc + 1 = pc') (hr : oW p l e R s m args below meth c Z h0 P ds cells slots pc' Ls (.int v :: S)) : oW p l e R s m args below meth c Z h0 P ds cells slots pc Ls (.int y :: .int x :: S) := by
  subst hp hv
  exact oW.pure (fun T locs X t k => XS.iand X.here K.1.1 rfl (hb K.1.2.2.1 hd) rfl k) hr
theorem oW.land (K : oK p s m meth c Z own by0 ml ret nm) {x y v : Int64} (hd : decode by0 pc = .ok (.land, 1)) (hv : v = x &&& y) (hp : pc + 1 = pc') (hr : oW p l e R s m args below meth c Z h0 P ds cells slots pc' Ls (.long v :: S)) : oW p l e R s m args below meth c Z h0 P ds cells slots pc Ls (.long y :: .long x :: S) := by
  subst hp hv
  exact oW.pure (fun T locs X t k => XT.land X.here K.1.1 rfl (hb K.1.2.2.1 hd) rfl k) hr
theorem oW.ior (K : oK p s m meth c Z own by0 ml ret nm) {x y v : Int32} (hd : decode by0 pc = .ok (.ior, 1)) (hv : v = x ||| y) (hp : pc + 1 = pc') (hr : oW p l e R s m args below meth c Z h0 P ds cells slots pc' Ls (.int v :: S)) : oW p l e R s m args below meth c Z h0 P ds cells slots pc Ls (.int y :: .int x :: S) := by
  subst hp hv
  exact oW.pure (fun T locs X t k => XT.ior X.here K.1.1 rfl (hb K.1.2.2.1 hd) rfl k) hr
theorem oW.lor (K : oK p s m meth c Z own by0 ml ret nm) {x y v : Int64} (hd : decode by0 pc = .ok (.lor, 1)) (hv : v = x ||| y) (hp : pc + 1 = pc') (hr : oW p l e R s m args below meth c Z h0 P ds cells slots pc' Ls (.long v :: S)) : oW p l e R s m args below meth c Z h0 P ds cells slots pc Ls (.long y :: .long x :: S) := by
  subst hp hv
  exact oW.pure (fun T locs X t k => XT.lor X.here K.1.1 rfl (hb K.1.2.2.1 hd) rfl k) hr
theorem oW.ixor (K : oK p s m meth c Z own by0 ml ret nm) {x y v : Int32} (hd : decode by0 pc = .ok (.ixor, 1)) (hv : v = x ^^^ y) (hp : pc + 1 = pc') (hr : oW p l e R s m args below meth c Z h0 P ds cells slots pc' Ls (.int v :: S)) : oW p l e R s m args below meth c Z h0 P ds cells slots pc Ls (.int y :: .int x :: S) := by
  subst hp hv
  exact oW.pure (fun T locs X t k => XT.ixor X.here K.1.1 rfl (hb K.1.2.2.1 hd) rfl k) hr
theorem oW.lxor (K : oK p s m meth c Z own by0 ml ret nm) {x y v : Int64} (hd : decode by0 pc = .ok (.lxor, 1)) (hv : v = x ^^^ y) (hp : pc + 1 = pc') (hr : oW p l e R s m args below meth c Z h0 P ds cells slots pc' Ls (.long v :: S)) : oW p l e R s m args below meth c Z h0 P ds cells slots pc Ls (.long y :: .long x :: S) := by
  subst hp hv
  exact oW.pure (fun T locs X t k => XT.lxor X.here K.1.1 rfl (hb K.1.2.2.1 hd) rfl k) hr
theorem oW.idiv (K : oK p s m meth c Z own by0 ml ret nm) {x y v : Int32} (hd : decode by0 pc = .ok (.idiv, 1)) (hy : y ≠ 0) (hv : v = x / y) (hp : pc + 1 = pc') (hr : oW p l e R s m args below meth c Z h0 P ds cells slots pc' Ls (.int v :: S)) : oW p l e R s m args below meth c Z h0 P ds cells slots pc Ls (.int y :: .int x :: S) := by
  subst hp hv
  exact oW.pure (fun T locs X t k => XS.idiv X.here K.1.1 rfl (hb K.1.2.2.1 hd) rfl hy k) hr
theorem oW.irem (K : oK p s m meth c Z own by0 ml ret nm) {x y v : Int32} (hd : decode by0 pc = .ok (.irem, 1)) (hy : y ≠ 0) (hv : v = x % y) (hp : pc + 1 = pc') (hr : oW p l e R s m args below meth c Z h0 P ds cells slots pc' Ls (.int v :: S)) : oW p l e R s m args below meth c Z h0 P ds cells slots pc Ls (.int y :: .int x :: S) := by
  subst hp hv
  exact oW.pure (fun T locs X t k => iremM X K.1.1 rfl (hb K.1.2.2.1 hd) rfl hy k) hr
theorem oW.ineg (K : oK p s m meth c Z own by0 ml ret nm) {x v : Int32} (hd : decode by0 pc = .ok (.ineg, 1)) (hv : v = -x) (hp : pc + 1 = pc') (hr : oW p l e R s m args below meth c Z h0 P ds cells slots pc' Ls (.int v :: S)) : oW p l e R s m args below meth c Z h0 P ds cells slots pc Ls (.int x :: S) := by
  subst hp hv
  exact oW.pure (fun T locs X t k => XS.ineg X.here K.1.1 rfl (hb K.1.2.2.1 hd) rfl k) hr
theorem oW.ishl (K : oK p s m meth c Z own by0 ml ret nm) {x y v : Int32} (hd : decode by0 pc = .ok (.ishl, 1)) (hv : v = x <<< (y &&& 31)) (hp : pc + 1 = pc') (hr : oW p l e R s m args below meth c Z h0 P ds cells slots pc' Ls (.int v :: S)) : oW p l e R s m args below meth c Z h0 P ds cells slots pc Ls (.int y :: .int x :: S) := by
  subst hp hv
  exact oW.pure (fun T locs X t k => XT.ishl X.here K.1.1 rfl (hb K.1.2.2.1 hd) rfl k) hr
theorem oW.ishr (K : oK p s m meth c Z own by0 ml ret nm) {x y v : Int32} (hd : decode by0 pc = .ok (.ishr, 1)) (hv : v = x >>> (y &&& 31)) (hp : pc + 1 = pc') (hr : oW p l e R s m args below meth c Z h0 P ds cells slots pc' Ls (.int v :: S)) : oW p l e R s m args below meth c Z h0 P ds cells slots pc Ls (.int y :: .int x :: S) := by
  subst hp hv
  exact oW.pure (fun T locs X t k => XT.ishr X.here K.1.1 rfl (hb K.1.2.2.1 hd) rfl k) hr
theorem oW.iushr (K : oK p s m meth c Z own by0 ml ret nm) {x y v : Int32} (hd : decode by0 pc = .ok (.iushr, 1)) (hv : v = XT.ushr x y) (hp : pc + 1 = pc') (hr : oW p l e R s m args below meth c Z h0 P ds cells slots pc' Ls (.int v :: S)) : oW p l e R s m args below meth c Z h0 P ds cells slots pc Ls (.int y :: .int x :: S) := by
  subst hp hv
  exact oW.pure (fun T locs X t k => XT.iushr X.here K.1.1 rfl (hb K.1.2.2.1 hd) rfl k) hr
theorem oW.iinc (K : oK p s m meth c Z own by0 ml ret nm) {k : Nat} {cst : Int} {x v : Int32} (hd : decode by0 pc = .ok (.iinc k cst, 3)) (hl : Ls[k]? = some (.val (.int x))) (hv : v = x + Int32.ofInt cst) (hs : storeLocals Ls k (.int v) = some Ls') (hp : pc + 3 = pc') (hr : oW p l e R s m args below meth c Z h0 P ds cells slots pc' Ls' (S)) : oW p l e R s m args below meth c Z h0 P ds cells slots pc Ls (S) := by
  subst hp hv
  exact oW.pure (fun T locs X t k => XS.iinc X.here K.1.1 rfl (hb K.1.2.2.1 hd) hl hs k) hr
theorem oW.i2l (K : oK p s m meth c Z own by0 ml ret nm) {x : Int32} {v : Int64} (hd : decode by0 pc = .ok (.i2l, 1)) (hv : v = x.toInt64) (hp : pc + 1 = pc') (hr : oW p l e R s m args below meth c Z h0 P ds cells slots pc' Ls (.long v :: S)) : oW p l e R s m args below meth c Z h0 P ds cells slots pc Ls (.int x :: S) := by
  subst hp hv
  exact oW.pure (fun T locs X t k => XT.i2l X.here K.1.1 rfl (hb K.1.2.2.1 hd) rfl k) hr
theorem oW.l2i (K : oK p s m meth c Z own by0 ml ret nm) {x : Int64} {v : Int32} (hd : decode by0 pc = .ok (.l2i, 1)) (hv : v = x.toInt32) (hp : pc + 1 = pc') (hr : oW p l e R s m args below meth c Z h0 P ds cells slots pc' Ls (.int v :: S)) : oW p l e R s m args below meth c Z h0 P ds cells slots pc Ls (.long x :: S) := by
  subst hp hv
  exact oW.pure (fun T locs X t k => XT.l2i X.here K.1.1 rfl (hb K.1.2.2.1 hd) rfl k) hr
theorem oW.i2s (K : oK p s m meth c Z own by0 ml ret nm) {x v : Int32} (hd : decode by0 pc = .ok (.i2s, 1)) (hv : v = x.toInt16.toInt32) (hp : pc + 1 = pc') (hr : oW p l e R s m args below meth c Z h0 P ds cells slots pc' Ls (.int v :: S)) : oW p l e R s m args below meth c Z h0 P ds cells slots pc Ls (.int x :: S) := by
  subst hp hv
  exact oW.pure (fun T locs X t k => XT.i2s X.here K.1.1 rfl (hb K.1.2.2.1 hd) rfl k) hr
theorem oW.lshl (K : oK p s m meth c Z own by0 ml ret nm) {x v : Int64} {y : Int32} (hd : decode by0 pc = .ok (.lshl, 1)) (hv : v = x <<< (y.toInt64 &&& 63)) (hp : pc + 1 = pc') (hr : oW p l e R s m args below meth c Z h0 P ds cells slots pc' Ls (.long v :: S)) : oW p l e R s m args below meth c Z h0 P ds cells slots pc Ls (.int y :: .long x :: S) := by
  subst hp hv
  exact oW.pure (fun T locs X t k => XT.lshl X.here K.1.1 rfl (hb K.1.2.2.1 hd) rfl k) hr
theorem oW.lshr (K : oK p s m meth c Z own by0 ml ret nm) {x v : Int64} {y : Int32} (hd : decode by0 pc = .ok (.lshr, 1)) (hv : v = x >>> (y.toInt64 &&& 63)) (hp : pc + 1 = pc') (hr : oW p l e R s m args below meth c Z h0 P ds cells slots pc' Ls (.long v :: S)) : oW p l e R s m args below meth c Z h0 P ds cells slots pc Ls (.int y :: .long x :: S) := by
  subst hp hv
  exact oW.pure (fun T locs X t k => XT.lshr X.here K.1.1 rfl (hb K.1.2.2.1 hd) rfl k) hr
theorem oW.lushr (K : oK p s m meth c Z own by0 ml ret nm) {x v : Int64} {y : Int32} (hd : decode by0 pc = .ok (.lushr, 1)) (hv : v = XT.ushrL x y) (hp : pc + 1 = pc') (hr : oW p l e R s m args below meth c Z h0 P ds cells slots pc' Ls (.long v :: S)) : oW p l e R s m args below meth c Z h0 P ds cells slots pc Ls (.int y :: .long x :: S) := by
  subst hp hv
  exact oW.pure (fun T locs X t k => XT.lushr X.here K.1.1 rfl (hb K.1.2.2.1 hd) rfl k) hr
theorem oW.lcmp (K : oK p s m meth c Z own by0 ml ret nm) {x y : Int64} {v : Int32} (hd : decode by0 pc = .ok (.lcmp, 1)) (hv : v = XT.cmpL x y) (hp : pc + 1 = pc') (hr : oW p l e R s m args below meth c Z h0 P ds cells slots pc' Ls (.int v :: S)) : oW p l e R s m args below meth c Z h0 P ds cells slots pc Ls (.long y :: .long x :: S) := by
  subst hp hv
  exact oW.pure (fun T locs X t k => XT.lcmp X.here K.1.1 rfl (hb K.1.2.2.1 hd) rfl k) hr
theorem oW.i2d (K : oK p s m meth c Z own by0 ml ret nm) {x : Int32} {v : UInt64} (hd : decode by0 pc = .ok (.i2d, 1)) (hv : v = FP.i2d x) (hp : pc + 1 = pc') (hr : oW p l e R s m args below meth c Z h0 P ds cells slots pc' Ls (.double v :: S)) : oW p l e R s m args below meth c Z h0 P ds cells slots pc Ls (.int x :: S) := by
  subst hp hv
  exact oW.pure (fun T locs X t k => XS.i2dS X.here K.1.1 rfl (hb K.1.2.2.1 hd) rfl rfl k) hr
theorem oW.l2d (K : oK p s m meth c Z own by0 ml ret nm) {x : Int64} {v : UInt64} (hd : decode by0 pc = .ok (.l2d, 1)) (hv : v = FP.l2d x) (hp : pc + 1 = pc') (hr : oW p l e R s m args below meth c Z h0 P ds cells slots pc' Ls (.double v :: S)) : oW p l e R s m args below meth c Z h0 P ds cells slots pc Ls (.long x :: S) := by
  subst hp hv
  exact oW.pure (fun T locs X t k => XS.l2dS X.here K.1.1 rfl (hb K.1.2.2.1 hd) rfl rfl k) hr
theorem oW.dcmp (K : oK p s m meth c Z own by0 ml ret nm) {o : CmpOp} {x y : UInt64} {v : Int32} (hd : decode by0 pc = .ok (.dcmp o, 1)) (hv : v = cmpValue (FP.dcmp x y) o) (hp : pc + 1 = pc') (hr : oW p l e R s m args below meth c Z h0 P ds cells slots pc' Ls (.int v :: S)) : oW p l e R s m args below meth c Z h0 P ds cells slots pc Ls (.double y :: .double x :: S) := by
  subst hp hv
  exact oW.pure (fun T locs X t k => XS.dcmpS X.here K.1.1 rfl (hb K.1.2.2.1 hd) rfl rfl k) hr
theorem oW.dadd (K : oK p s m meth c Z own by0 ml ret nm) {x y v : UInt64} (hd : decode by0 pc = .ok (.dadd, 1)) (hv : v = FP.dadd x y) (hn : Jvm.Free.Fl.NoNaN64 v) (hp : pc + 1 = pc') (hr : oW p l e R s m args below meth c Z h0 P ds cells slots pc' Ls (.double v :: S)) : oW p l e R s m args below meth c Z h0 P ds cells slots pc Ls (.double y :: .double x :: S) := by
  subst hp hv
  exact oW.pure (fun T locs X t k => XS.daddS X.here K.1.1 rfl (hb K.1.2.2.1 hd) rfl hn rfl k) hr
theorem oW.dsub (K : oK p s m meth c Z own by0 ml ret nm) {x y v : UInt64} (hd : decode by0 pc = .ok (.dsub, 1)) (hv : v = FP.dsub x y) (hn : Jvm.Free.Fl.NoNaN64 v) (hp : pc + 1 = pc') (hr : oW p l e R s m args below meth c Z h0 P ds cells slots pc' Ls (.double v :: S)) : oW p l e R s m args below meth c Z h0 P ds cells slots pc Ls (.double y :: .double x :: S) := by
  subst hp hv
  exact oW.pure (fun T locs X t k => XS.dsubS X.here K.1.1 rfl (hb K.1.2.2.1 hd) rfl hn rfl k) hr
theorem oW.dmul (K : oK p s m meth c Z own by0 ml ret nm) {x y v : UInt64} (hd : decode by0 pc = .ok (.dmul, 1)) (hv : v = FP.dmul x y) (hn : Jvm.Free.Fl.NoNaN64 v) (hp : pc + 1 = pc') (hr : oW p l e R s m args below meth c Z h0 P ds cells slots pc' Ls (.double v :: S)) : oW p l e R s m args below meth c Z h0 P ds cells slots pc Ls (.double y :: .double x :: S) := by
  subst hp hv
  exact oW.pure (fun T locs X t k => XS.dmulS X.here K.1.1 rfl (hb K.1.2.2.1 hd) rfl hn rfl k) hr
theorem oW.ddiv (K : oK p s m meth c Z own by0 ml ret nm) {x y v : UInt64} (hd : decode by0 pc = .ok (.ddiv, 1)) (hv : v = FP.ddiv x y) (hn : Jvm.Free.Fl.NoNaN64 v) (hp : pc + 1 = pc') (hr : oW p l e R s m args below meth c Z h0 P ds cells slots pc' Ls (.double v :: S)) : oW p l e R s m args below meth c Z h0 P ds cells slots pc Ls (.double y :: .double x :: S) := by
  subst hp hv
  exact oW.pure (fun T locs X t k => XS.ddivS X.here K.1.1 rfl (hb K.1.2.2.1 hd) rfl hn rfl k) hr
theorem oW.dup (K : oK p s m meth c Z own by0 ml ret nm) {x : Value} (hd : decode by0 pc = .ok (.dup, 1)) (hc : x.category = 1) (hp : pc + 1 = pc') (hr : oW p l e R s m args below meth c Z h0 P ds cells slots pc' Ls (x :: x :: S)) : oW p l e R s m args below meth c Z h0 P ds cells slots pc Ls (x :: S) := by
  subst hp
  exact oW.pure (fun T locs X t k => XS.dup X.here K.1.1 rfl (hb K.1.2.2.1 hd) rfl hc k) hr
theorem oW.pop (K : oK p s m meth c Z own by0 ml ret nm) {x : Value} (hd : decode by0 pc = .ok (.pop, 1)) (hc : x.category = 1) (hp : pc + 1 = pc') (hr : oW p l e R s m args below meth c Z h0 P ds cells slots pc' Ls (S)) : oW p l e R s m args below meth c Z h0 P ds cells slots pc Ls (x :: S) := by
  subst hp
  exact oW.pure (fun T locs X t k => XT.pop X.here K.1.1 rfl (hb K.1.2.2.1 hd) rfl hc k) hr
theorem oW.dup2 (K : oK p s m meth c Z own by0 ml ret nm) {x y : Value} (hd : decode by0 pc = .ok (.dup2, 1)) (hc : x.category = 1) (hc' : y.category = 1) (hp : pc + 1 = pc') (hr : oW p l e R s m args below meth c Z h0 P ds cells slots pc' Ls (x :: y :: x :: y :: S)) : oW p l e R s m args below meth c Z h0 P ds cells slots pc Ls (x :: y :: S) := by
  subst hp
  exact oW.pure (fun T locs X t k => XT.dup2 X.here K.1.1 rfl (hb K.1.2.2.1 hd) rfl hc hc' k) hr
theorem oW.dupX1 (K : oK p s m meth c Z own by0 ml ret nm) {x y : Value} (hd : decode by0 pc = .ok (.dup_x1, 1)) (hc : x.category = 1) (hc' : y.category = 1) (hp : pc + 1 = pc') (hr : oW p l e R s m args below meth c Z h0 P ds cells slots pc' Ls (x :: y :: x :: S)) : oW p l e R s m args below meth c Z h0 P ds cells slots pc Ls (x :: y :: S) := by
  subst hp
  exact oW.pure (fun T locs X t k => XT.dupX1 X.here K.1.1 rfl (hb K.1.2.2.1 hd) rfl hc hc' k) hr
theorem oW.goto (K : oK p s m meth c Z own by0 ml ret nm) {o : Int} (hd : decode by0 pc = .ok (.goto o, 3)) (ho : 0 ≤ (pc : Int) + o) (hp : ((pc : Int) + o).toNat = pc') (hr : oW p l e R s m args below meth c Z h0 P ds cells slots pc' Ls S) : oW p l e R s m args below meth c Z h0 P ds cells slots pc Ls S :=
  oW.pure (fun T locs X t k => XS.goto X.here K.1.1 rfl rfl (hb K.1.2.2.1 hd) ho hp k) hr
theorem oW.ifc (K : oK p s m meth c Z own by0 ml ret nm) {cd : ClassFile.Cond} {o : Int} {x : Int32} {pc3 : Nat} (hd : decode by0 pc = .ok (.ifCond cd o, 3)) (ho : 0 ≤ (pc : Int) + o) (hp : ((pc : Int) + o).toNat = pc') (h3 : pc + 3 = pc3) (hy : if_icmp.holds cd x 0 = true → oW p l e R s m args below meth c Z h0 P ds cells slots pc' Ls S) (hn : if_icmp.holds cd x 0 = false → oW p l e R s m args below meth c Z h0 P ds cells slots pc3 Ls S) : oW p l e R s m args below meth c Z h0 P ds cells slots pc Ls (.int x :: S) := by
  subst h3
  cases q : if_icmp.holds cd x 0
  · exact oW.pure (fun T locs X t k => XS.ifNo X.here K.1.1 rfl (hb K.1.2.2.1 hd) rfl ((if0 _ _).trans q) k) (hn q)
  · exact oW.pure (fun T locs X t k => XS.ifYes X.here K.1.1 rfl rfl (hb K.1.2.2.1 hd) rfl ((if0 _ _).trans q) ho hp k) (hy q)
theorem oW.icc (K : oK p s m meth c Z own by0 ml ret nm) {cd : ClassFile.Cond} {o : Int} {x y : Int32} {pc3 : Nat} (hd : decode by0 pc = .ok (.if_icmp cd o, 3)) (ho : 0 ≤ (pc : Int) + o) (hp : ((pc : Int) + o).toNat = pc') (h3 : pc + 3 = pc3) (hy : if_icmp.holds cd x y = true → oW p l e R s m args below meth c Z h0 P ds cells slots pc' Ls S) (hn : if_icmp.holds cd x y = false → oW p l e R s m args below meth c Z h0 P ds cells slots pc3 Ls S) : oW p l e R s m args below meth c Z h0 P ds cells slots pc Ls (.int y :: .int x :: S) := by
  subst h3
  cases q : if_icmp.holds cd x y
  · exact oW.pure (fun T locs X t k => XS.icmpNo X.here K.1.1 rfl (hb K.1.2.2.1 hd) rfl q k) (hn q)
  · exact oW.pure (fun T locs X t k => XS.icmpYes X.here K.1.1 rfl rfl (hb K.1.2.2.1 hd) rfl q ho hp k) (hy q)
theorem oH_lt {x y : Int32} : (if_icmp.holds .lt x y = true → x < y) ∧ (if_icmp.holds .lt x y = false → ¬ x < y) := ⟨fun q => Decidable.byContradiction (fun r => absurd q (by rw [(flt r).1]; decide)), fun q r => absurd q (by rw [(tlt r).1]; decide)⟩
theorem oH_ge {x y : Int32} : (if_icmp.holds .ge x y = true → ¬ x < y) ∧ (if_icmp.holds .ge x y = false → x < y) := ⟨fun q r => absurd q (by rw [(tlt r).2.1]; decide), fun q => Decidable.byContradiction (fun r => absurd q (by rw [(flt r).2.1]; decide))⟩
theorem oH_gt {x y : Int32} : (if_icmp.holds .gt x y = true → y < x) ∧ (if_icmp.holds .gt x y = false → ¬ y < x) := ⟨fun q => Decidable.byContradiction (fun r => absurd q (by rw [(flt r).2.2.1]; decide)), fun q r => absurd q (by rw [(tlt r).2.2.1]; decide)⟩
theorem oH_le {x y : Int32} : (if_icmp.holds .le x y = true → ¬ y < x) ∧ (if_icmp.holds .le x y = false → y < x) := ⟨fun q r => absurd q (by rw [(tlt r).2.2.2]; decide), fun q => Decidable.byContradiction (fun r => absurd q (by rw [(flt r).2.2.2]; decide))⟩
theorem oH_eq {x y : Int32} : (if_icmp.holds .eq x y = true → x = y) ∧ (if_icmp.holds .eq x y = false → ¬ x = y) := ⟨fun q => Decidable.byContradiction (fun r => absurd q (by rw [(feq r).1]; decide)), fun q r => absurd q (by rw [(teq r).1]; decide)⟩
theorem oH_ne {x y : Int32} : (if_icmp.holds .ne x y = true → ¬ x = y) ∧ (if_icmp.holds .ne x y = false → x = y) := ⟨fun q r => absurd q (by rw [(teq r).2]; decide), fun q => Decidable.byContradiction (fun r => absurd q (by rw [(feq r).2]; decide))⟩
theorem oW.if_lt (K : oK p s m meth c Z own by0 ml ret nm) {o : Int} {x : Int32} {pc3 : Nat} (hd : decode by0 pc = .ok (.ifCond .lt o, 3)) (ho : 0 ≤ (pc : Int) + o) (hp : ((pc : Int) + o).toNat = pc') (h3 : pc + 3 = pc3) (hy : x < 0 → oW p l e R s m args below meth c Z h0 P ds cells slots pc' Ls S) (hn : ¬ x < 0 → oW p l e R s m args below meth c Z h0 P ds cells slots pc3 Ls S) : oW p l e R s m args below meth c Z h0 P ds cells slots pc Ls (.int x :: S) :=
  oW.ifc K hd ho hp h3 (fun q => hy (oH_lt.1 q)) (fun q => hn (oH_lt.2 q))
theorem oW.icmp_lt (K : oK p s m meth c Z own by0 ml ret nm) {o : Int} {x y : Int32} {pc3 : Nat} (hd : decode by0 pc = .ok (.if_icmp .lt o, 3)) (ho : 0 ≤ (pc : Int) + o) (hp : ((pc : Int) + o).toNat = pc') (h3 : pc + 3 = pc3) (hy : x < y → oW p l e R s m args below meth c Z h0 P ds cells slots pc' Ls S) (hn : ¬ x < y → oW p l e R s m args below meth c Z h0 P ds cells slots pc3 Ls S) : oW p l e R s m args below meth c Z h0 P ds cells slots pc Ls (.int y :: .int x :: S) :=
  oW.icc K hd ho hp h3 (fun q => hy (oH_lt.1 q)) (fun q => hn (oH_lt.2 q))
theorem oW.if_ge (K : oK p s m meth c Z own by0 ml ret nm) {o : Int} {x : Int32} {pc3 : Nat} (hd : decode by0 pc = .ok (.ifCond .ge o, 3)) (ho : 0 ≤ (pc : Int) + o) (hp : ((pc : Int) + o).toNat = pc') (h3 : pc + 3 = pc3) (hy : ¬ x < 0 → oW p l e R s m args below meth c Z h0 P ds cells slots pc' Ls S) (hn : x < 0 → oW p l e R s m args below meth c Z h0 P ds cells slots pc3 Ls S) : oW p l e R s m args below meth c Z h0 P ds cells slots pc Ls (.int x :: S) :=
  oW.ifc K hd ho hp h3 (fun q => hy (oH_ge.1 q)) (fun q => hn (oH_ge.2 q))
theorem oW.icmp_ge (K : oK p s m meth c Z own by0 ml ret nm) {o : Int} {x y : Int32} {pc3 : Nat} (hd : decode by0 pc = .ok (.if_icmp .ge o, 3)) (ho : 0 ≤ (pc : Int) + o) (hp : ((pc : Int) + o).toNat = pc') (h3 : pc + 3 = pc3) (hy : ¬ x < y → oW p l e R s m args below meth c Z h0 P ds cells slots pc' Ls S) (hn : x < y → oW p l e R s m args below meth c Z h0 P ds cells slots pc3 Ls S) : oW p l e R s m args below meth c Z h0 P ds cells slots pc Ls (.int y :: .int x :: S) :=
  oW.icc K hd ho hp h3 (fun q => hy (oH_ge.1 q)) (fun q => hn (oH_ge.2 q))
theorem oW.if_gt (K : oK p s m meth c Z own by0 ml ret nm) {o : Int} {x : Int32} {pc3 : Nat} (hd : decode by0 pc = .ok (.ifCond .gt o, 3)) (ho : 0 ≤ (pc : Int) + o) (hp : ((pc : Int) + o).toNat = pc') (h3 : pc + 3 = pc3) (hy : 0 < x → oW p l e R s m args below meth c Z h0 P ds cells slots pc' Ls S) (hn : ¬ 0 < x → oW p l e R s m args below meth c Z h0 P ds cells slots pc3 Ls S) : oW p l e R s m args below meth c Z h0 P ds cells slots pc Ls (.int x :: S) :=
  oW.ifc K hd ho hp h3 (fun q => hy (oH_gt.1 q)) (fun q => hn (oH_gt.2 q))
theorem oW.icmp_gt (K : oK p s m meth c Z own by0 ml ret nm) {o : Int} {x y : Int32} {pc3 : Nat} (hd : decode by0 pc = .ok (.if_icmp .gt o, 3)) (ho : 0 ≤ (pc : Int) + o) (hp : ((pc : Int) + o).toNat = pc') (h3 : pc + 3 = pc3) (hy : y < x → oW p l e R s m args below meth c Z h0 P ds cells slots pc' Ls S) (hn : ¬ y < x → oW p l e R s m args below meth c Z h0 P ds cells slots pc3 Ls S) : oW p l e R s m args below meth c Z h0 P ds cells slots pc Ls (.int y :: .int x :: S) :=
  oW.icc K hd ho hp h3 (fun q => hy (oH_gt.1 q)) (fun q => hn (oH_gt.2 q))
theorem oW.if_le (K : oK p s m meth c Z own by0 ml ret nm) {o : Int} {x : Int32} {pc3 : Nat} (hd : decode by0 pc = .ok (.ifCond .le o, 3)) (ho : 0 ≤ (pc : Int) + o) (hp : ((pc : Int) + o).toNat = pc') (h3 : pc + 3 = pc3) (hy : ¬ 0 < x → oW p l e R s m args below meth c Z h0 P ds cells slots pc' Ls S) (hn : 0 < x → oW p l e R s m args below meth c Z h0 P ds cells slots pc3 Ls S) : oW p l e R s m args below meth c Z h0 P ds cells slots pc Ls (.int x :: S) :=
  oW.ifc K hd ho hp h3 (fun q => hy (oH_le.1 q)) (fun q => hn (oH_le.2 q))
theorem oW.icmp_le (K : oK p s m meth c Z own by0 ml ret nm) {o : Int} {x y : Int32} {pc3 : Nat} (hd : decode by0 pc = .ok (.if_icmp .le o, 3)) (ho : 0 ≤ (pc : Int) + o) (hp : ((pc : Int) + o).toNat = pc') (h3 : pc + 3 = pc3) (hy : ¬ y < x → oW p l e R s m args below meth c Z h0 P ds cells slots pc' Ls S) (hn : y < x → oW p l e R s m args below meth c Z h0 P ds cells slots pc3 Ls S) : oW p l e R s m args below meth c Z h0 P ds cells slots pc Ls (.int y :: .int x :: S) :=
  oW.icc K hd ho hp h3 (fun q => hy (oH_le.1 q)) (fun q => hn (oH_le.2 q))
theorem oW.if_eq (K : oK p s m meth c Z own by0 ml ret nm) {o : Int} {x : Int32} {pc3 : Nat} (hd : decode by0 pc = .ok (.ifCond .eq o, 3)) (ho : 0 ≤ (pc : Int) + o) (hp : ((pc : Int) + o).toNat = pc') (h3 : pc + 3 = pc3) (hy : x = 0 → oW p l e R s m args below meth c Z h0 P ds cells slots pc' Ls S) (hn : ¬ x = 0 → oW p l e R s m args below meth c Z h0 P ds cells slots pc3 Ls S) : oW p l e R s m args below meth c Z h0 P ds cells slots pc Ls (.int x :: S) :=
  oW.ifc K hd ho hp h3 (fun q => hy (oH_eq.1 q)) (fun q => hn (oH_eq.2 q))
theorem oW.icmp_eq (K : oK p s m meth c Z own by0 ml ret nm) {o : Int} {x y : Int32} {pc3 : Nat} (hd : decode by0 pc = .ok (.if_icmp .eq o, 3)) (ho : 0 ≤ (pc : Int) + o) (hp : ((pc : Int) + o).toNat = pc') (h3 : pc + 3 = pc3) (hy : x = y → oW p l e R s m args below meth c Z h0 P ds cells slots pc' Ls S) (hn : ¬ x = y → oW p l e R s m args below meth c Z h0 P ds cells slots pc3 Ls S) : oW p l e R s m args below meth c Z h0 P ds cells slots pc Ls (.int y :: .int x :: S) :=
  oW.icc K hd ho hp h3 (fun q => hy (oH_eq.1 q)) (fun q => hn (oH_eq.2 q))
theorem oW.if_ne (K : oK p s m meth c Z own by0 ml ret nm) {o : Int} {x : Int32} {pc3 : Nat} (hd : decode by0 pc = .ok (.ifCond .ne o, 3)) (ho : 0 ≤ (pc : Int) + o) (hp : ((pc : Int) + o).toNat = pc') (h3 : pc + 3 = pc3) (hy : ¬ x = 0 → oW p l e R s m args below meth c Z h0 P ds cells slots pc' Ls S) (hn : x = 0 → oW p l e R s m args below meth c Z h0 P ds cells slots pc3 Ls S) : oW p l e R s m args below meth c Z h0 P ds cells slots pc Ls (.int x :: S) :=
  oW.ifc K hd ho hp h3 (fun q => hy (oH_ne.1 q)) (fun q => hn (oH_ne.2 q))
theorem oW.icmp_ne (K : oK p s m meth c Z own by0 ml ret nm) {o : Int} {x y : Int32} {pc3 : Nat} (hd : decode by0 pc = .ok (.if_icmp .ne o, 3)) (ho : 0 ≤ (pc : Int) + o) (hp : ((pc : Int) + o).toNat = pc') (h3 : pc + 3 = pc3) (hy : ¬ x = y → oW p l e R s m args below meth c Z h0 P ds cells slots pc' Ls S) (hn : x = y → oW p l e R s m args below meth c Z h0 P ds cells slots pc3 Ls S) : oW p l e R s m args below meth c Z h0 P ds cells slots pc Ls (.int y :: .int x :: S) :=
  oW.icc K hd ho hp h3 (fun q => hy (oH_ne.1 q)) (fun q => hn (oH_ne.2 q))
theorem oW.ifnullNo (K : oK p s m meth c Z own by0 ml ret nm) {o : Int} {b : Addr} (hd : decode by0 pc = .ok (.ifnull o, 3)) (hp : pc + 3 = pc') (hr : oW p l e R s m args below meth c Z h0 P ds cells slots pc' Ls S) : oW p l e R s m args below meth c Z h0 P ds cells slots pc Ls (.ref b :: S) := by
  subst hp
  exact oW.pure (fun T locs X t k => XS.ifnullNo X.here K.1.1 rfl (hb K.1.2.2.1 hd) rfl k) hr
theorem oW.ifnullYes (K : oK p s m meth c Z own by0 ml ret nm) {o : Int} (hd : decode by0 pc = .ok (.ifnull o, 3)) (ho : 0 ≤ (pc : Int) + o) (hp : ((pc : Int) + o).toNat = pc') (hr : oW p l e R s m args below meth c Z h0 P ds cells slots pc' Ls S) : oW p l e R s m args below meth c Z h0 P ds cells slots pc Ls (.null :: S) :=
  oW.pure (fun T locs X t k => XS.ifnullYes X.here K.1.1 rfl rfl (hb K.1.2.2.1 hd) rfl ho hp k) hr
theorem oW.ifnonnullYes (K : oK p s m meth c Z own by0 ml ret nm) {o : Int} {b : Addr} (hd : decode by0 pc = .ok (.ifnonnull o, 3)) (ho : 0 ≤ (pc : Int) + o) (hp : ((pc : Int) + o).toNat = pc') (hr : oW p l e R s m args below meth c Z h0 P ds cells slots pc' Ls S) : oW p l e R s m args below meth c Z h0 P ds cells slots pc Ls (.ref b :: S) :=
  oW.pure (fun T locs X t k => XT.ifnonnullYes X.here K.1.1 rfl rfl (hb K.1.2.2.1 hd) rfl ho hp k) hr
theorem oW.ldcI (K : oK p s m meth c Z own by0 ml ret nm) {index : Nat} {v : Int32} (w : (Jvm.Cond.constant own index v).before a0 Z = true) (hd : decode by0 pc = .ok (.ldc index, 2)) (hp : pc + 2 = pc') (hr : oW p l e R s m args below meth c Z h0 P ds cells slots pc' Ls (.int v :: S)) : oW p l e R s m args below meth c Z h0 P ds cells slots pc Ls S := by
  subst hp
  exact oW.pure (fun T locs X t k => X.ldcInt K.1.1 K.2.1 (mv K.1.2.1 w) (g := mkF m pc Ls S) rfl (hb K.1.2.2.1 hd) t k) hr
theorem oW.ldc2D (K : oK p s m meth c Z own by0 ml ret nm) {index : Nat} {v : UInt64} (w : (Jvm.Cond.constantDouble own index v).before a0 Z = true) (hd : decode by0 pc = .ok (.ldc2_w index, 3)) (hp : pc + 3 = pc') (hr : oW p l e R s m args below meth c Z h0 P ds cells slots pc' Ls (.double v :: S)) : oW p l e R s m args below meth c Z h0 P ds cells slots pc Ls S := by
  subst hp
  exact oW.pure (fun T locs X t k => X.ldc2DoubleC K.1.1 K.2.1 (mv K.1.2.1 w) (g := mkF m pc Ls S) rfl (hb K.1.2.2.1 hd) t k) hr
theorem oW.ldc2L (K : oK p s m meth c Z own by0 ml ret nm) {index : Nat} {v : Int64} (w : (Jvm.Cond.constantLong own index v).before a0 Z = true) (hd : decode by0 pc = .ok (.ldc2_w index, 3)) (hp : pc + 3 = pc') (hr : oW p l e R s m args below meth c Z h0 P ds cells slots pc' Ls (.long v :: S)) : oW p l e R s m args below meth c Z h0 P ds cells slots pc Ls S := by
  subst hp
  exact oW.pure (fun T locs X t k => X.ldc2Long K.1.1 K.2.1 (mv K.1.2.1 w) (g := mkF m pc Ls S) rfl (hb K.1.2.2.1 hd) t k) hr
theorem oLen {vs : List Value} {j : Int32} {k : Nat} {v : Value} {c : Cell} (hj : j = Int32.ofNat k) (hk : k < 2 ^ 31) (hv : vs[k]? = some v) (hs : c.slots = vs.toArray) : ¬ (j < 0 ∨ c.slots.size ≤ j.toNatClampNeg) ∧ c.slots[j.toNatClampNeg]? = some v := by
  subst hj
  have e : (Int32.ofNat k).toNatClampNeg = k := Int32.toNatClampNeg_ofNat_of_lt hk
  have l := (List.getElem?_eq_some_iff.mp hv).1
  rw [e, hs]
  refine ⟨fun q => q.elim (Int32.ofNat_not_neg hk) (fun r => by simp at r; omega), by simpa using hv⟩
theorem oW.iaload (K : oK p s m meth c Z own by0 ml ret nm) {i k : Nat} {a : Addr} {vs : List Value} {j : Int32} {v : Value} (hd : decode by0 pc = .ok (.iaload, 1)) (hi : ds[i]? = some (a, .inl (.int, vs))) (hj : j = Int32.ofNat k) (hk : k < 2 ^ 31) (hv : vs[k]? = some v) (hp : pc + 1 = pc') (hr : oW p l e R s m args below meth c Z h0 P ds cells slots pc' Ls (v :: S)) : oW p l e R s m args below meth c Z h0 P ds cells slots pc Ls (.int j :: .ref a :: S) := by
  subst hp
  rintro T ⟨locs, X, N, M⟩
  obtain ⟨cl, A, hs⟩ := (M.2.2 i _ hi).2
  obtain ⟨q1, q2⟩ := oLen hj hk hv hs
  exact oW.ends (fun t k => X.iaload K.1.1 A.1 (State.isArrayOf_alike K.1.2.1.alike A.2.1) A.2.2 q1 q2 (g := mkF m pc Ls (.int j :: .ref a :: S)) rfl rfl (hb K.1.2.2.1 hd) t k) (hr T ⟨locs, X, N, M⟩)
theorem oW.daload (K : oK p s m meth c Z own by0 ml ret nm) {i k : Nat} {a : Addr} {vs : List Value} {j : Int32} {v : Value} (hd : decode by0 pc = .ok (.daload, 1)) (hi : ds[i]? = some (a, .inl (.double, vs))) (hj : j = Int32.ofNat k) (hk : k < 2 ^ 31) (hv : vs[k]? = some v) (hp : pc + 1 = pc') (hr : oW p l e R s m args below meth c Z h0 P ds cells slots pc' Ls (v :: S)) : oW p l e R s m args below meth c Z h0 P ds cells slots pc Ls (.int j :: .ref a :: S) := by
  subst hp
  rintro T ⟨locs, X, N, M⟩
  obtain ⟨cl, A, hs⟩ := (M.2.2 i _ hi).2
  obtain ⟨q1, q2⟩ := oLen hj hk hv hs
  exact oW.ends (fun t k => X.daload K.1.1 A.1 (State.isArrayOf_alike K.1.2.1.alike A.2.1) A.2.2 q1 q2 (g := mkF m pc Ls (.int j :: .ref a :: S)) rfl rfl (hb K.1.2.2.1 hd) t k) (hr T ⟨locs, X, N, M⟩)
theorem oW.laload (K : oK p s m meth c Z own by0 ml ret nm) {i k : Nat} {a : Addr} {vs : List Value} {j : Int32} {v : Value} (hd : decode by0 pc = .ok (.laload, 1)) (hi : ds[i]? = some (a, .inl (.long, vs))) (hj : j = Int32.ofNat k) (hk : k < 2 ^ 31) (hv : vs[k]? = some v) (hp : pc + 1 = pc') (hr : oW p l e R s m args below meth c Z h0 P ds cells slots pc' Ls (v :: S)) : oW p l e R s m args below meth c Z h0 P ds cells slots pc Ls (.int j :: .ref a :: S) := by
  subst hp
  rintro T ⟨locs, X, N, M⟩
  obtain ⟨cl, A, hs⟩ := (M.2.2 i _ hi).2
  obtain ⟨q1, q2⟩ := oLen hj hk hv hs
  exact oW.ends (fun t k => X.laload K.1.1 A.1 (State.isArrayOf_alike K.1.2.1.alike A.2.1) A.2.2 q1 q2 (g := mkF m pc Ls (.int j :: .ref a :: S)) rfl rfl (hb K.1.2.2.1 hd) t k) (hr T ⟨locs, X, N, M⟩)
theorem oW.iastore (K : oK p s m meth c Z own by0 ml ret nm) {i k : Nat} {a : Addr} {vs : List Value} {j : Int32} {x : Int32} (hd : decode by0 pc = .ok (.iastore, 1)) (hi : ds[i]? = some (a, .inl (.int, vs))) (hj : j = Int32.ofNat k) (hk : k < 2 ^ 31) (hl : k < vs.length) (hds : ds.set i (a, .inl (.int, vs.set k (.int x))) = ds') (hp : pc + 1 = pc') (hr : oW p l e R s m args below meth c Z h0 P ds' cells slots pc' Ls S) : oW p l e R s m args below meth c Z h0 P ds cells slots pc Ls (.int x :: .int j :: .ref a :: S) := by
  subst hp hds
  rintro T ⟨locs, X, N, M⟩
  obtain ⟨ha, cl, A, hs⟩ := M.2.2 i _ hi
  obtain ⟨q1, q2⟩ := oLen hj hk (List.getElem?_eq_getElem hl) hs
  obtain ⟨T', h', X', e', Wr', st⟩ := stI X K.1.1 K.1.2.1 rfl A (x := x) q1 (g := mkF m pc Ls (.int x :: .int j :: .ref a :: S)) rfl rfl (hb K.1.2.2.1 hd)
  have ek : j.toNatClampNeg = k := by subst hj; exact Int32.toNatClampNeg_ofNat_of_lt hk
  refine oW.ends st (hr T' ⟨_, X', Fr.snoc X' N ha, ?_⟩)
  rw [e']
  refine M.put hi Wr' ⟨_, A.same Wr', ?_⟩
  rw [ek]; simp [Cell.setSlot, hs]
theorem oW.dastore (K : oK p s m meth c Z own by0 ml ret nm) {i k : Nat} {a : Addr} {vs : List Value} {j : Int32} {x : UInt64} (hd : decode by0 pc = .ok (.dastore, 1)) (hi : ds[i]? = some (a, .inl (.double, vs))) (hj : j = Int32.ofNat k) (hk : k < 2 ^ 31) (hl : k < vs.length) (hds : ds.set i (a, .inl (.double, vs.set k (.double x))) = ds') (hp : pc + 1 = pc') (hr : oW p l e R s m args below meth c Z h0 P ds' cells slots pc' Ls S) : oW p l e R s m args below meth c Z h0 P ds cells slots pc Ls (.double x :: .int j :: .ref a :: S) := by
  subst hp hds
  rintro T ⟨locs, X, N, M⟩
  obtain ⟨ha, cl, A, hs⟩ := M.2.2 i _ hi
  obtain ⟨q1, q2⟩ := oLen hj hk (List.getElem?_eq_getElem hl) hs
  obtain ⟨T', h', X', e', Wr', st⟩ := stD X K.1.1 K.1.2.1 rfl A (x := x) q1 (g := mkF m pc Ls (.double x :: .int j :: .ref a :: S)) rfl rfl (hb K.1.2.2.1 hd)
  have ek : j.toNatClampNeg = k := by subst hj; exact Int32.toNatClampNeg_ofNat_of_lt hk
  refine oW.ends st (hr T' ⟨_, X', Fr.snoc X' N ha, ?_⟩)
  rw [e']
  refine M.put hi Wr' ⟨_, A.same Wr', ?_⟩
  rw [ek]; simp [Cell.setSlot, hs]
theorem oW.lastore (K : oK p s m meth c Z own by0 ml ret nm) {i k : Nat} {a : Addr} {vs : List Value} {j : Int32} {x : Int64} (hd : decode by0 pc = .ok (.lastore, 1)) (hi : ds[i]? = some (a, .inl (.long, vs))) (hj : j = Int32.ofNat k) (hk : k < 2 ^ 31) (hl : k < vs.length) (hds : ds.set i (a, .inl (.long, vs.set k (.long x))) = ds') (hp : pc + 1 = pc') (hr : oW p l e R s m args below meth c Z h0 P ds' cells slots pc' Ls S) : oW p l e R s m args below meth c Z h0 P ds cells slots pc Ls (.long x :: .int j :: .ref a :: S) := by
  subst hp hds
  rintro T ⟨locs, X, N, M⟩
  obtain ⟨ha, cl, A, hs⟩ := M.2.2 i _ hi
  obtain ⟨q1, q2⟩ := oLen hj hk (List.getElem?_eq_getElem hl) hs
  obtain ⟨T', h', X', e', Wr', st⟩ := stJ X K.1.1 K.1.2.1 rfl A (x := x) q1 (g := mkF m pc Ls (.long x :: .int j :: .ref a :: S)) rfl rfl (hb K.1.2.2.1 hd)
  have ek : j.toNatClampNeg = k := by subst hj; exact Int32.toNatClampNeg_ofNat_of_lt hk
  refine oW.ends st (hr T' ⟨_, X', Fr.snoc X' N ha, ?_⟩)
  rw [e']
  refine M.put hi Wr' ⟨_, A.same Wr', ?_⟩
  rw [ek]; simp [Cell.setSlot, hs]
theorem oW.alen (K : oK p s m meth c Z own by0 ml ret nm) {i : Nat} {a : Addr} {ty : FieldType} {vs : List Value} {v : Int32} (hd : decode by0 pc = .ok (.arraylength, 1)) (hi : ds[i]? = some (a, .inl (ty, vs))) (hv : v = Int32.ofNat vs.length) (hp : pc + 1 = pc') (hr : oW p l e R s m args below meth c Z h0 P ds cells slots pc' Ls (.int v :: S)) : oW p l e R s m args below meth c Z h0 P ds cells slots pc Ls (.ref a :: S) := by
  subst hp
  rintro T ⟨locs, X, N, M⟩
  obtain ⟨cl, A, hs⟩ := (M.2.2 i _ hi).2
  have ev : v = cl.slots.size.toInt32 := by rw [hv, hs]; simp
  subst ev
  exact oW.ends (fun t k => X.arraylength K.1.1 A.1 (State.isArrayOf_alike K.1.2.1.alike A.2.1) (g := mkF m pc Ls (.ref a :: S)) rfl rfl (hb K.1.2.2.1 hd) t k) (hr T ⟨locs, X, N, M⟩)
theorem oW.newarr (K : oK p s m meth c Z own by0 ml ret nm) {aty : ArrayType} {j : Int32} {n : Nat} (w : (Jvm.Cond.arrayClass (newarray.typeOf aty)).before a0 Z = true) (hd : decode by0 pc = .ok (.newarray aty, 2)) (hj : j = Int32.ofNat n) (hn : n < 2 ^ 31) (hb8 : n * 8 ≤ 536870912) (hc : cells + 1 ≤ R.cells) (hs : slots + n ≤ R.slots) {cells' slots' : Nat} (hc' : cells + 1 = cells') (hs' : slots + n = slots') {dsf : Addr → oDs} (hds : ∀ a, ds ++ [(a, .inl (newarray.typeOf aty, List.replicate n (defaultValue (newarray.typeOf aty))))] = dsf a) (hp : pc + 2 = pc')
    (hr : ∀ a : Addr, h0.size ≤ a → oW p l e R s m args below meth c Z h0 P (dsf a) cells' slots' pc' Ls (.ref a :: S)) : oW p l e R s m args below meth c Z h0 P ds cells slots pc Ls (.int j :: S) := by
  subst hp hc' hs'
  rintro T ⟨locs, X, N, M⟩
  have ej : j.toNatClampNeg = n := by subst hj; exact Int32.toNatClampNeg_ofNat_of_lt hn
  obtain ⟨T', h', k, X', e', E', A', st⟩ := newP X K.1.1 K.1.2.1 w rfl (g := mkF m pc Ls (.int j :: S)) rfl (hb K.1.2.2.1 hd) rfl (by subst hj; exact Int32.ofNat_not_neg hn) (cap := n) (Nat.le_of_eq ej) hb8 hc hs
  refine oW.ends st (hr T.heap.size M.1.1 T' ⟨_, X', N, ?_⟩)
  rw [e', ← hds]
  refine M.push E' ⟨_, A', ?_⟩
  simp [newA, ej]
theorem oW.new (K : oK p s m meth c Z own by0 ml ret nm) {index n : Nat} {C : String} {fs : List (String × String × String × Value)} (w : (Jvm.Cond.classLink own index C).before a0 Z = true) (wi : (Jvm.Cond.instantiable C n).before a0 Z = true) (wz : (Jvm.Cond.initialized C).before a0 Z = true) (hL : ∀ f ∈ fs, Laid Z a0 C f.1 f.2.1 f.2.2.1 ∧ ∃ t, parseFieldDescriptor f.2.2.1 = some t ∧ f.2.2.2 = defaultValue t) (hd : decode by0 pc = .ok (.new index, 3)) (hc : cells + 1 ≤ R.cells) (hs : slots + n ≤ R.slots) {cells' slots' : Nat} (hc' : cells + 1 = cells') (hs' : slots + n = slots') {dsf : Addr → oDs} (hds : ∀ a, ds ++ [(a, .inr (C, fs))] = dsf a) (hp : pc + 3 = pc')
    (hr : ∀ a : Addr, h0.size ≤ a → oW p l e R s m args below meth c Z h0 P (dsf a) cells' slots' pc' Ls (.ref a :: S)) : oW p l e R s m args below meth c Z h0 P ds cells slots pc Ls S := by
  subst hp hc' hs'
  rintro T ⟨locs, X, N, M⟩
  obtain ⟨T', h', X', e', E', A', D', -, st⟩ := newO X K.1.1 K.1.2.1 K.2.1 w wi wz rfl (g := mkF m pc Ls S) rfl (hb K.1.2.2.1 hd) hc hs
  refine oW.ends st (hr T.heap.size M.1.1 T' ⟨_, X', N, ?_⟩)
  rw [e', ← hds]
  refine M.push E' ⟨A', fun f hf => ?_⟩
  obtain ⟨L, t, h1, h2⟩ := hL f hf
  rw [h2]; exact D' L h1
theorem oW.getf (K : oK p s m meth c Z own by0 ml ret nm) {index i q : Nat} {a : Addr} {C O n d : String} {fs : List (String × String × String × Value)} {v : Value} (w : (Jvm.Cond.fieldLink own index O n d).before a0 Z = true) (hd : decode by0 pc = .ok (.getfield index, 3)) (hi : ds[i]? = some (a, .inr (C, fs))) (hf : fs[q]? = some (O, n, d, v)) (hp : pc + 3 = pc') (hr : oW p l e R s m args below meth c Z h0 P ds cells slots pc' Ls (v :: S)) : oW p l e R s m args below meth c Z h0 P ds cells slots pc Ls (.ref a :: S) := by
  subst hp
  rintro T ⟨locs, X, N, M⟩
  obtain ⟨ha, hE, hF⟩ := M.2.2 i _ hi
  obtain ⟨T', X', e', st⟩ := getF X K.1.1 K.1.2.1 K.2.1 (host := "") (Or.inl w) Via.refl rfl (hF _ (List.mem_of_getElem? hf)) (g := mkF m pc Ls (.ref a :: S)) rfl rfl (hb K.1.2.2.1 hd)
  exact oW.ends st (hr T' ⟨_, X', N, by rw [e']; exact M⟩)
theorem oW.putf (K : oK p s m meth c Z own by0 ml ret nm) {index i q kk : Nat} {a : Addr} {C O n d : String} {fs : List (String × String × String × Value)} {v old : Value} {ty : FieldType} (w : (Jvm.Cond.fieldLink own index O n d).before a0 Z = true) (L : (Jvm.Cond.lays C O n d).before a0 Z = true ∨ ((Jvm.Cond.laysFinal C O n d).before a0 Z = true ∧ own = O ∧ nm = "<init>")) (wi : (Jvm.Cond.instantiable C kk).before a0 Z = true) (hap : oApart Z fs) (hd : decode by0 pc = .ok (.putfield index, 3)) (hi : ds[i]? = some (a, .inr (C, fs))) (hf : fs[q]? = some (O, n, d, old)) (hty : parseFieldDescriptor d = some ty) (hn : narrow ty v = v) (hfit : fits ty v = true) (hds : ds.set i (a, .inr (C, fs.set q (O, n, d, v))) = ds') (hp : pc + 3 = pc') (hr : oW p l e R s m args below meth c Z h0 P ds' cells slots pc' Ls S) : oW p l e R s m args below meth c Z h0 P ds cells slots pc Ls (v :: .ref a :: S) := by
  subst hp hds
  rintro T ⟨locs, X, N, M⟩
  obtain ⟨ha, hE, hF⟩ := M.2.2 i _ hi
  have hFq := hF _ (List.mem_of_getElem? hf)
  obtain ⟨T', h', X', e', Wr', st⟩ := putF X K.1.1 K.1.2.1 K.2.1 (host := "") (Or.inl w) Via.refl rfl hFq hE (L.imp id fun r => ⟨r.1, r.2.1, K.2.2.2.2.trans r.2.2⟩) wi hty hn hfit (g := mkF m pc Ls (v :: .ref a :: S)) rfl rfl (hb K.1.2.2.1 hd)
  refine oW.ends st (hr T' ⟨_, X', Fr.snoc X' N ha, ?_⟩)
  rw [e']
  refine M.put hi Wr' ⟨hE.wr Wr', fun f hf' => ?_⟩
  obtain ⟨r, hr'⟩ := List.getElem?_of_mem hf'
  rw [List.getElem?_set] at hr'
  split at hr'
  · rename_i er
    subst er
    rw [if_pos (List.getElem?_eq_some_iff.mp hf).1] at hr'
    cases hr'
    exact hFq.same Wr'
  · rename_i er
    have hh := hap r q f (O, n, d, old) (Ne.symm er) hr' hf
    exact (hF f (List.mem_of_getElem? hr')).other Wr' (Or.inr hh)
theorem oW.getst (K : oK p s m meth c Z own by0 ml ret nm) {index : Nat} {O n d : String} {v : Value} (w : (Jvm.Cond.fieldLink own index O n d).before a0 Z = true) (F : Sta Z h0 O n d v) (hd : decode by0 pc = .ok (.getstatic index, 3)) (hp : pc + 3 = pc') (hr : oW p l e R s m args below meth c Z h0 P ds cells slots pc' Ls (v :: S)) : oW p l e R s m args below meth c Z h0 P ds cells slots pc Ls S := by
  subst hp
  rintro T ⟨locs, X, N, M⟩
  obtain ⟨T', X', e', st⟩ := getS2 X K.1.1 K.1.2.1 K.2.1 (host := "") (Or.inl w) Via.refl rfl (F.ext M.1) (g := mkF m pc Ls S) rfl (hb K.1.2.2.1 hd)
  exact oW.ends st (hr T' ⟨_, X', N, by rw [e']; exact M⟩)
theorem oW.initO (K : oK p s m meth c Z own by0 ml ret nm) {idx : Nat} {a : Addr} {W : Nat} (w1 : (Jvm.Cond.methodLink own idx Lib.objectInit).before a0 Z = true) (w2 : (Jvm.Cond.instanceMethod Lib.objectInit).before a0 Z = true) (w3 : (Jvm.Cond.code Lib.objectInit ⟨#[0xb1]⟩ 1 none).before a0 Z = true) (hd : decode by0 pc = .ok (.invokespecial idx, 3)) (hsz : Ls.size = ml) (hf : 1 ≤ R.frames) (hW : (S.map fun v => v.category).sum ≤ W) (hl : W + 12 ≤ R.locals) (hp : pc + 3 = pc') (hr : oW p l e R s m args below meth c Z h0 P ds cells slots pc' Ls S) : oW p l e R s m args below meth c Z h0 P ds cells slots pc Ls (.ref a :: S) := by
  subst hp
  rintro T ⟨locs, X, N, M⟩
  obtain ⟨T', X', e', st⟩ := Jvm.RoadKit.initO X K.1.1 K.1.2.1 K.2.1 w1 w2 w3 rfl (g := mkF m pc Ls (.ref a :: S)) rfl (hsz.trans K.1.2.2.2.symm) rfl (hb K.1.2.2.1 hd) hf (W := W) (by show 2 * 0 + _ ≤ _; omega) hl
  exact oW.ends st (hr T' ⟨_, X', N, by rw [e']; exact M⟩)
theorem oW.leave (K : oK p s m meth c Z own by0 ml ret nm) {v : Option Value} (hv : ret = none → v = none) (hc : cells ≤ R.cells) (hs : slots ≤ R.slots) (hP : P v ds)
    (st : ∀ (T : State) (locs : List Loc) (fs : List Frame), Stand p l e R s m args below meth c T locs cells slots → (∀ (f : JFrame) (acts : List Action), f.method = m → f.locked = none → f.entered = [] → (doReturn e (T.setTop f) acts v).1 = T.setFrames fs) → Steps p.tables e below (T.setTop (mkF m pc Ls S)) (T.setFrames fs)) : oW p l e R s m args below meth c Z h0 P ds cells slots pc Ls S := by
  rintro T ⟨locs, X, N, M⟩
  obtain ⟨fs, hr, hrun, hended, hW, hsame⟩ := X.leave (v := v) (fun h => hv (K.2.2.1.symm.trans h)) K.2.2.2.1
  exact ⟨_, _, st T locs fs X hr, hrun, hended, v, locs, rfl, ⟨N, ds, hP, M⟩, ⟨_, rfl⟩, hW, hsame.mono hc hs⟩
theorem oW.retB (K : oK p s m meth c Z own by0 ml ret nm) {z : Int32} (hret : ret = some .boolean) (hd : decode by0 pc = .ok (.ireturn, 1)) (hc : cells ≤ R.cells) (hs : slots ≤ R.slots) (hP : P (some (.int (nar .boolean z))) ds) : oW p l e R s m args below meth c Z h0 P ds cells slots pc Ls (.int z :: S) :=
  oW.leave K (by rw [hret]; intro h; cases h) hc hs hP fun T locs fs X hr => retN X K.1.1 (t := .boolean) (K.2.2.1.trans hret) (Or.inl rfl) (hb K.1.2.2.1 hd) hr
theorem oW.retI (K : oK p s m meth c Z own by0 ml ret nm) {z : Int32} (hret : ret = some .int) (hd : decode by0 pc = .ok (.ireturn, 1)) (hc : cells ≤ R.cells) (hs : slots ≤ R.slots) (hP : P (some (.int z)) ds) : oW p l e R s m args below meth c Z h0 P ds cells slots pc Ls (.int z :: S) :=
  oW.leave K (by rw [hret]; intro h; cases h) hc hs hP fun T locs fs X hr => retOut X K.1.1 (K.2.2.1.trans hret) rfl (Or.inl ⟨rfl, Or.inl rfl, _, rfl⟩) (hb K.1.2.2.1 hd) hr
theorem oW.retJ (K : oK p s m meth c Z own by0 ml ret nm) {z : Int64} (hret : ret = some .long) (hd : decode by0 pc = .ok (.lreturn, 1)) (hc : cells ≤ R.cells) (hs : slots ≤ R.slots) (hP : P (some (.long z)) ds) : oW p l e R s m args below meth c Z h0 P ds cells slots pc Ls (.long z :: S) :=
  oW.leave K (by rw [hret]; intro h; cases h) hc hs hP fun T locs fs X hr => retOut X K.1.1 (K.2.2.1.trans hret) rfl (Or.inr (Or.inl ⟨rfl, rfl, _, rfl⟩)) (hb K.1.2.2.1 hd) hr
theorem oW.retD (K : oK p s m meth c Z own by0 ml ret nm) {z : UInt64} (hret : ret = some .double) (hd : decode by0 pc = .ok (.dreturn, 1)) (hc : cells ≤ R.cells) (hs : slots ≤ R.slots) (hP : P (some (.double z)) ds) : oW p l e R s m args below meth c Z h0 P ds cells slots pc Ls (.double z :: S) :=
  oW.leave K (by rw [hret]; intro h; cases h) hc hs hP fun T locs fs X hr => retOut X K.1.1 (K.2.2.1.trans hret) rfl (Or.inr (Or.inr (Or.inl ⟨rfl, rfl, _, rfl⟩))) (hb K.1.2.2.1 hd) hr
theorem oW.retA (K : oK p s m meth c Z own by0 ml ret nm) {a : Addr} {t : FieldType} (hret : ret = some t) (ht : t.isReference = true) (hn : narrow t (.ref a) = .ref a) (hd : decode by0 pc = .ok (.areturn, 1)) (hc : cells ≤ R.cells) (hs : slots ≤ R.slots) (hP : P (some (.ref a)) ds) : oW p l e R s m args below meth c Z h0 P ds cells slots pc Ls (.ref a :: S) :=
  oW.leave K (by rw [hret]; intro h; cases h) hc hs hP fun T locs fs X hr => retOut X K.1.1 (K.2.2.1.trans hret) hn (Or.inr (Or.inr (Or.inr (Or.inr ⟨rfl, ht, rfl⟩)))) (hb K.1.2.2.1 hd) hr
theorem oW.retV (K : oK p s m meth c Z own by0 ml ret nm) (hret : ret = none) (hd : decode by0 pc = .ok (.return_, 1)) (hc : cells ≤ R.cells) (hs : slots ≤ R.slots) (hP : P none ds) : oW p l e R s m args below meth c Z h0 P ds cells slots pc Ls [] :=
  oW.leave K (fun _ => rfl) hc hs hP fun T locs fs X hr => X.returnOut K.1.1 (K.2.2.1.trans hret) (hb K.1.2.2.1 hd) hr
theorem oW.callS (K : oK p s m meth c Z own by0 ml ret nm) {y : MethodName} {index : Nat} {by1 : ByteArray} {ml1 : Nat} {rt1 : Option FieldType} {rm : Room} {argsL : List Value} {P2 : Value → oDs → Prop} {W : Nat} {cells' slots' : Nat}
    (w1 : (Jvm.Cond.methodLink own index y).before a0 Z = true) (w2 : (Jvm.Cond.static y).before a0 Z = true) (w3 : (Jvm.Cond.initialized y.cls).before a0 Z = true) (w4 : (Jvm.Cond.code y by1 ml1 rt1).before a0 Z = true) (hy : y.cls ≠ "java/lang/invoke/MethodHandle" ∧ y.cls ≠ "java/lang/invoke/VarHandle")
    (C : oCtr l Z h0 [] y by1 ml1 rt1 rm argsL.toArray ds (oVal P2)) (hlen : ∀ sig, parseMethodDescriptor y.desc = some sig → argsL.length = sig.parameters.length) (hd : decode by0 pc = .ok (.invokestatic index, 3)) (hst : S' = argsL.reverse ++ S) (hsz : Ls.size = ml) (hW : (S.map fun v => v.category).sum ≤ W) (hf : rm.frames + 1 ≤ R.frames) (hl : W + (ml1 + 11) + rm.locals ≤ R.locals) (hc : cells + rm.cells ≤ R.cells) (hs : slots + rm.slots ≤ R.slots) (hc' : cells + rm.cells = cells') (hs' : slots + rm.slots = slots') (hp : pc + 3 = pc')
    (hr : ∀ w ds', P2 w ds' → oW p l e R s m args below meth c Z h0 P ds' cells' slots' pc' Ls (w :: S)) : oW p l e R s m args below meth c Z h0 P ds cells slots pc Ls S' := by
  subst hp hst hc' hs'
  rintro T ⟨locs, X, N, M⟩
  obtain ⟨v, vm1, ⟨T', L', k', n'⟩, -, X', ⟨Lc, hQ, l', y', z'⟩, st⟩ := Jvm.LawKit.callS X K.1.1 K.2.1 (mvT K.1.2.1 w1) (mvT K.1.2.1 w2) (mvT K.1.2.1 w3) (mvT K.1.2.1 w4) hy (backOf (W := W) (Q := fun v hp L => Fr h0.size L ∧ ∃ ds', (oVal P2) v ds' ∧ oMem Z h0 hp ds') (C T.heap M) K.1.2.1 w4 w3 hf hl) (g := mkF m pc Ls (argsL.reverse ++ S)) rfl (hsz.trans K.1.2.2.2.symm) (argsL := argsL) (rest := S) hlen rfl (by show 2 * 0 + _ ≤ _; omega) (hb K.1.2.2.1 hd) (fun _ _ => ⟨rfl, rfl, hc, hs⟩)
  dsimp only [Pt.U, Pt.locs, Pt.cells, Pt.slots] at X' l' y' z' st hQ
  subst l' y' z'
  obtain ⟨N', ds', hP, M'⟩ := hQ
  obtain ⟨w, rfl, hP⟩ := hP
  exact oW.ends st (hr w ds' hP T' ⟨_, X', N.app N', M'⟩)
theorem oW.callV (K : oK p s m meth c Z own by0 ml ret nm) {y z : MethodName} {C : String} {index : Nat} {by1 : ByteArray} {ml1 : Nat} {rt1 : Option FieldType} {rm : Room} {a : Addr} {argsL : List Value} {P2 : Value → oDs → Prop} {W : Nat} {cells' slots' : Nat}
    (w1 : (Jvm.Cond.methodLink own index y).before a0 Z = true) (w2 : (Jvm.Cond.declares y).before a0 Z = true) (w3 : (Jvm.Cond.selects C y z).before a0 Z = true) (w4 : (Jvm.Cond.instanceMethod z).before a0 Z = true) (w5 : (Jvm.Cond.code z by1 ml1 rt1).before a0 Z = true) (w6 : (Jvm.Cond.initialized z.cls).before a0 Z = true) (hy : y.cls ≠ "java/lang/invoke/MethodHandle" ∧ y.cls ≠ "java/lang/invoke/VarHandle")
    (hnf : ∀ s : State, Z.Warmed39 s.vm → NotFace s y) (hE : ∀ h, oMem Z h0 h ds → Exa Z h a C) (Ct : oCtr l Z h0 [] z by1 ml1 rt1 rm (.ref a :: argsL).toArray ds (oVal P2)) (hlen : ∀ sig, parseMethodDescriptor y.desc = some sig → argsL.length = sig.parameters.length) (hd : decode by0 pc = .ok (.invokevirtual index, 3)) (hst : S' = argsL.reverse ++ .ref a :: S) (hsz : Ls.size = ml) (hW : (S.map fun v => v.category).sum ≤ W) (hf : rm.frames + 1 ≤ R.frames) (hl : W + (ml1 + 11) + rm.locals ≤ R.locals) (hc : cells + rm.cells ≤ R.cells) (hs : slots + rm.slots ≤ R.slots) (hc' : cells + rm.cells = cells') (hs' : slots + rm.slots = slots') (hp : pc + 3 = pc')
    (hr : ∀ w ds', P2 w ds' → oW p l e R s m args below meth c Z h0 P ds' cells' slots' pc' Ls (w :: S)) : oW p l e R s m args below meth c Z h0 P ds cells slots pc Ls S' := by
  subst hp hst hc' hs'
  rintro T ⟨locs, X, N, M⟩
  obtain ⟨cq, kq, qa, qb, qc⟩ := isOf K.1.2.1 rfl (hE T.heap M)
  have w3' : (Jvm.Cond.selects C y z).before args s = true := mvT K.1.2.1 w3
  obtain ⟨v, vm1, ⟨T', L', k', n'⟩, -, X', ⟨Lc, hQ, l', y', z'⟩, st⟩ := X.virtualBack K.1.1 K.2.1 (mvT K.1.2.1 w1) (mvT K.1.2.1 w2) (hnf s K.1.2.1) w3' (mvT K.1.2.1 w4) hy (backOf (W := W) (Q := fun v hp L => Fr h0.size L ∧ ∃ ds', (oVal P2) v ds' ∧ oMem Z h0 hp ds') (Ct T.heap M) K.1.2.1 w5 w6 hf hl) qa qc (g := mkF m pc Ls (argsL.reverse ++ .ref a :: S)) rfl (hsz.trans K.1.2.2.2.symm) (Steps.refl _) (argsL := argsL) (rest := S) hlen rfl (by show 2 * 0 + _ ≤ _; omega) (hb K.1.2.2.1 hd) (fun _ _ => ⟨rfl, rfl, hc, hs⟩)
  dsimp only [Pt.U, Pt.locs, Pt.cells, Pt.slots] at X' l' y' z' st hQ
  subst l' y' z'
  obtain ⟨N', ds', hP, M'⟩ := hQ
  obtain ⟨w, rfl, hP⟩ := hP
  exact oW.ends (fun t k => st.trans k) (hr w ds' hP T' ⟨_, X', N.app N', M'⟩)
theorem oW.callS0 (K : oK p s m meth c Z own by0 ml ret nm) {y : MethodName} {index : Nat} {by1 : ByteArray} {ml1 : Nat} {rt1 : Option FieldType} {rm : Room} {argsL : List Value} {P2 : oDs → Prop} {W : Nat} {cells' slots' : Nat}
    (w1 : (Jvm.Cond.methodLink own index y).before a0 Z = true) (w2 : (Jvm.Cond.static y).before a0 Z = true) (w3 : (Jvm.Cond.initialized y.cls).before a0 Z = true) (w4 : (Jvm.Cond.code y by1 ml1 rt1).before a0 Z = true) (hy : y.cls ≠ "java/lang/invoke/MethodHandle" ∧ y.cls ≠ "java/lang/invoke/VarHandle")
    (C : oCtr l Z h0 [] y by1 ml1 rt1 rm argsL.toArray ds (oVoid P2)) (hlen : ∀ sig, parseMethodDescriptor y.desc = some sig → argsL.length = sig.parameters.length) (hd : decode by0 pc = .ok (.invokestatic index, 3)) (hst : S' = argsL.reverse ++ S) (hsz : Ls.size = ml) (hW : (S.map fun v => v.category).sum ≤ W) (hf : rm.frames + 1 ≤ R.frames) (hl : W + (ml1 + 11) + rm.locals ≤ R.locals) (hc : cells + rm.cells ≤ R.cells) (hs : slots + rm.slots ≤ R.slots) (hc' : cells + rm.cells = cells') (hs' : slots + rm.slots = slots') (hp : pc + 3 = pc')
    (hr : ∀ ds', P2 ds' → oW p l e R s m args below meth c Z h0 P ds' cells' slots' pc' Ls S) : oW p l e R s m args below meth c Z h0 P ds cells slots pc Ls S' := by
  subst hp hst hc' hs'
  rintro T ⟨locs, X, N, M⟩
  obtain ⟨v, vm1, ⟨T', L', k', n'⟩, -, X', ⟨Lc, hQ, l', y', z'⟩, st⟩ := Jvm.LawKit.callS X K.1.1 K.2.1 (mvT K.1.2.1 w1) (mvT K.1.2.1 w2) (mvT K.1.2.1 w3) (mvT K.1.2.1 w4) hy (backOf (W := W) (Q := fun v hp L => Fr h0.size L ∧ ∃ ds', (oVoid P2) v ds' ∧ oMem Z h0 hp ds') (C T.heap M) K.1.2.1 w4 w3 hf hl) (g := mkF m pc Ls (argsL.reverse ++ S)) rfl (hsz.trans K.1.2.2.2.symm) (argsL := argsL) (rest := S) hlen rfl (by show 2 * 0 + _ ≤ _; omega) (hb K.1.2.2.1 hd) (fun _ _ => ⟨rfl, rfl, hc, hs⟩)
  dsimp only [Pt.U, Pt.locs, Pt.cells, Pt.slots] at X' l' y' z' st hQ
  subst l' y' z'
  obtain ⟨N', ds', hP, M'⟩ := hQ
  obtain ⟨rfl, hP⟩ := hP
  exact oW.ends st (hr ds' hP T' ⟨_, X', N.app N', M'⟩)
theorem oW.callI (K : oK p s m meth c Z own by0 ml ret nm) {y : MethodName} {index : Nat} {by1 : ByteArray} {ml1 : Nat} {rm : Room} {a : Addr} {argsL : List Value} {P2 : oDs → Prop} {W : Nat} {cells' slots' : Nat} (hin : y.name = "<init>")
    (w1 : (Jvm.Cond.methodLink own index y).before a0 Z = true) (w2 : (Jvm.Cond.instanceMethod y).before a0 Z = true) (w3 : (Jvm.Cond.initialized y.cls).before a0 Z = true) (w4 : (Jvm.Cond.code y by1 ml1 none).before a0 Z = true) (hy : y.cls ≠ "java/lang/invoke/MethodHandle" ∧ y.cls ≠ "java/lang/invoke/VarHandle")
    (C : oCtr l Z h0 [] y by1 ml1 none rm (.ref a :: argsL).toArray ds (oVoid P2)) (hlen : ∀ sig, parseMethodDescriptor y.desc = some sig → argsL.length = sig.parameters.length) (hd : decode by0 pc = .ok (.invokespecial index, 3)) (hst : S' = argsL.reverse ++ .ref a :: S) (hsz : Ls.size = ml) (hW : (S.map fun v => v.category).sum ≤ W) (hf : rm.frames + 1 ≤ R.frames) (hl : W + (ml1 + 11) + rm.locals ≤ R.locals) (hc : cells + rm.cells ≤ R.cells) (hs : slots + rm.slots ≤ R.slots) (hc' : cells + rm.cells = cells') (hs' : slots + rm.slots = slots') (hp : pc + 3 = pc')
    (hr : ∀ ds', P2 ds' → oW p l e R s m args below meth c Z h0 P ds' cells' slots' pc' Ls S) : oW p l e R s m args below meth c Z h0 P ds cells slots pc Ls S' := by
  subst hp hst hc' hs'
  rintro T ⟨locs, X, N, M⟩
  obtain ⟨v, vm1, ⟨T', L', k', n'⟩, -, X', ⟨Lc, hQ, l', y', z'⟩, st⟩ := X.specialBack K.1.1 hin K.2.1 (mvT K.1.2.1 w1) (mvT K.1.2.1 w2) (mvT K.1.2.1 w4) hy (backOf (W := W) (Q := fun v hp L => Fr h0.size L ∧ ∃ ds', (oVoid P2) v ds' ∧ oMem Z h0 hp ds') (C T.heap M) K.1.2.1 w4 w3 hf hl) (g := mkF m pc Ls (argsL.reverse ++ .ref a :: S)) rfl (hsz.trans K.1.2.2.2.symm) (Steps.refl _) (a := a) (argsL := argsL) (rest := S) hlen rfl (by show 2 * 0 + _ ≤ _; omega) (hb K.1.2.2.1 hd) (fun _ _ => ⟨rfl, rfl, hc, hs⟩)
  dsimp only [Pt.U, Pt.locs, Pt.cells, Pt.slots] at X' l' y' z' st hQ
  subst l' y' z'
  obtain ⟨N', ds', hP, M'⟩ := hQ
  obtain ⟨rfl, hP⟩ := hP
  exact oW.ends (fun t k => st.trans k) (hr ds' hP T' ⟨_, X', N.app N', M'⟩)
theorem oW.callV0 (K : oK p s m meth c Z own by0 ml ret nm) {y z : MethodName} {C : String} {index : Nat} {by1 : ByteArray} {ml1 : Nat} {rt1 : Option FieldType} {rm : Room} {a : Addr} {argsL : List Value} {P2 : oDs → Prop} {W : Nat} {cells' slots' : Nat}
    (w1 : (Jvm.Cond.methodLink own index y).before a0 Z = true) (w2 : (Jvm.Cond.declares y).before a0 Z = true) (w3 : (Jvm.Cond.selects C y z).before a0 Z = true) (w4 : (Jvm.Cond.instanceMethod z).before a0 Z = true) (w5 : (Jvm.Cond.code z by1 ml1 rt1).before a0 Z = true) (w6 : (Jvm.Cond.initialized z.cls).before a0 Z = true) (hy : y.cls ≠ "java/lang/invoke/MethodHandle" ∧ y.cls ≠ "java/lang/invoke/VarHandle")
    (hnf : ∀ s : State, Z.Warmed39 s.vm → NotFace s y) (hE : ∀ h, oMem Z h0 h ds → Exa Z h a C) (Ct : oCtr l Z h0 [] z by1 ml1 rt1 rm (.ref a :: argsL).toArray ds (oVoid P2)) (hlen : ∀ sig, parseMethodDescriptor y.desc = some sig → argsL.length = sig.parameters.length) (hd : decode by0 pc = .ok (.invokevirtual index, 3)) (hst : S' = argsL.reverse ++ .ref a :: S) (hsz : Ls.size = ml) (hW : (S.map fun v => v.category).sum ≤ W) (hf : rm.frames + 1 ≤ R.frames) (hl : W + (ml1 + 11) + rm.locals ≤ R.locals) (hc : cells + rm.cells ≤ R.cells) (hs : slots + rm.slots ≤ R.slots) (hc' : cells + rm.cells = cells') (hs' : slots + rm.slots = slots') (hp : pc + 3 = pc')
    (hr : ∀ ds', P2 ds' → oW p l e R s m args below meth c Z h0 P ds' cells' slots' pc' Ls S) : oW p l e R s m args below meth c Z h0 P ds cells slots pc Ls S' := by
  subst hp hst hc' hs'
  rintro T ⟨locs, X, N, M⟩
  obtain ⟨cq, kq, qa, qb, qc⟩ := isOf K.1.2.1 rfl (hE T.heap M)
  have w3' : (Jvm.Cond.selects C y z).before args s = true := mvT K.1.2.1 w3
  obtain ⟨v, vm1, ⟨T', L', k', n'⟩, -, X', ⟨Lc, hQ, l', y', z'⟩, st⟩ := X.virtualBack K.1.1 K.2.1 (mvT K.1.2.1 w1) (mvT K.1.2.1 w2) (hnf s K.1.2.1) w3' (mvT K.1.2.1 w4) hy (backOf (W := W) (Q := fun v hp L => Fr h0.size L ∧ ∃ ds', (oVoid P2) v ds' ∧ oMem Z h0 hp ds') (Ct T.heap M) K.1.2.1 w5 w6 hf hl) qa qc (g := mkF m pc Ls (argsL.reverse ++ .ref a :: S)) rfl (hsz.trans K.1.2.2.2.symm) (Steps.refl _) (argsL := argsL) (rest := S) hlen rfl (by show 2 * 0 + _ ≤ _; omega) (hb K.1.2.2.1 hd) (fun _ _ => ⟨rfl, rfl, hc, hs⟩)
  dsimp only [Pt.U, Pt.locs, Pt.cells, Pt.slots] at X' l' y' z' st hQ
  subst l' y' z'
  obtain ⟨N', ds', hP, M'⟩ := hQ
  obtain ⟨rfl, hP⟩ := hP
  exact oW.ends (fun t k => st.trans k) (hr ds' hP T' ⟨_, X', N.app N', M'⟩)
theorem oNF {C : String} {y : MethodName} (w : (Jvm.Cond.selects C y y).before a0 Z = true) : ∀ s : State, Z.Warmed39 s.vm → NotFace s y := fun s hZ => notFace_of_selects (args := #[]) (mvT hZ w)
theorem oMem.exa {h : Heap} {i : Nat} {a : Addr} {C : String} {fs : List (String × String × String × Value)} (hi : ds[i]? = some (a, .inr (C, fs))) (M : oMem Z h0 h ds) : Exa Z h a C := (M.2.2 i _ hi).2.1
end Steps
section Nums
open Jvm.FP Jvm.Free.Fl
theorem oN53 : (2 ^ 53 : Nat) = 9007199254740992 := by decide
theorem oTs : (0 : Int32).toInt = 0 ∧ (1 : Int32).toInt = 1 ∧ (2 : Int32).toInt = 2 ∧ (3 : Int32).toInt = 3 ∧ (4 : Int32).toInt = 4 ∧ (5 : Int32).toInt = 5 ∧ (6 : Int32).toInt = 6 ∧ (7 : Int32).toInt = 7 ∧ (8 : Int32).toInt = 8 ∧ (9 : Int32).toInt = 9 ∧ (-1 : Int32).toInt = -1 ∧ (0 : Int64).toInt = 0 ∧ (1 : Int64).toInt = 1 ∧ (2 : Int64).toInt = 2 ∧ (8 : Int64).toInt = 8 ∧ (-1 : Int64).toInt = -1 := by decide
theorem oB32 (x : Int32) : -2147483648 ≤ x.toInt ∧ x.toInt ≤ 2147483647 := by
  have h1 := Int32.le_toInt x; have h2 := Int32.toInt_lt x; omega
theorem oB64 (x : Int64) : -9223372036854775808 ≤ x.toInt ∧ x.toInt ≤ 9223372036854775807 := by
  have h1 := Int64.le_toInt x; have h2 := Int64.toInt_lt x; omega
theorem oNN {i : Int} {x : UInt64} (h : Core.DInt i x) : NoNaN64 x := val64_no.mpr (Core.DInt_ne_nan h)
theorem oI2D {a : Int32} {v : UInt64} (h : v = FP.i2d a) : Core.DInt a.toInt v := h ▸ Core.i2d_int a
theorem oL2D {a : Int64} {v : UInt64} (h : v = FP.l2d a) (b : -9007199254740992 ≤ a.toInt ∧ a.toInt ≤ 9007199254740992) : Core.DInt a.toInt v := h ▸ Core.l2d_int (by have := oN53; omega)
theorem oDK (i : Int) {x : UInt64} (h : FP.l2d (Int64.ofInt i) = x) (b : (Int64.ofInt i).toInt = i ∧ (Int64.ofInt i).toInt.natAbs ≤ 2 ^ 53) : Core.DInt i x := by
  have := Core.l2d_int b.2
  rw [b.1] at this; exact h ▸ this
theorem oDAdd {i j : Int} {x y v : UInt64} (hx : Core.DInt i x) (hy : Core.DInt j y) (h : v = FP.dadd x y) (b : -9007199254740992 ≤ i + j ∧ i + j ≤ 9007199254740992) : Core.DInt (i + j) v := h ▸ Core.dadd_int hx hy (by have := oN53; omega)
theorem oDSub {i j : Int} {x y v : UInt64} (hx : Core.DInt i x) (hy : Core.DInt j y) (h : v = FP.dsub x y) (b : -9007199254740992 ≤ i - j ∧ i - j ≤ 9007199254740992) : Core.DInt (i - j) v := h ▸ Core.dsub_int hx hy (by have := oN53; omega)
theorem oDMul {i j : Int} {x y v : UInt64} (hx : Core.DInt i x) (hy : Core.DInt j y) (h : v = FP.dmul x y) (b : -9007199254740992 ≤ i * j ∧ i * j ≤ 9007199254740992) : Core.DInt (i * j) v := h ▸ Core.dmul_int hx hy (by have := oN53; omega)
theorem oCmp {i j : Int} {x y : UInt64} {o : CmpOp} {v : Int32} (hx : Core.DInt i x) (hy : Core.DInt j y) (h : v = cmpValue (FP.dcmp x y) o) : (v < 0 ↔ i < j) ∧ (v = 0 ↔ i = j) ∧ (0 < v ↔ j < i) := by
  have e : FP.dcmp x y = some (compare i j) := Core.dcmp_int hx hy
  rw [h, e, Core.compare_ite]
  by_cases h1 : i < j
  · have h2 : ¬ i = j := by omega
    have h3 : ¬ j < i := by omega
    simp only [h1, if_true, h2, h3, iff_false, iff_true]
    cases o <;> decide
  · by_cases h2 : i = j
    · have h3 : ¬ j < i := by omega
      simp only [h1, h2, if_false, if_true, iff_true, Int.lt_irrefl, iff_false]
      cases o <;> decide
    · have h3 : j < i := by omega
      simp only [h1, h2, h3, if_false, iff_false, iff_true]
      cases o <;> decide
theorem oLadd {x y z : Int64} (h : z = x + y) (b : -9223372036854775808 ≤ x.toInt + y.toInt ∧ x.toInt + y.toInt ≤ 9223372036854775807) : z.toInt = x.toInt + y.toInt := by
  rw [h, Int64.toInt_add]; exact Int.bmod_eq_of_le (by omega) (by omega)
theorem oLsub {x y z : Int64} (h : z = x - y) (b : -9223372036854775808 ≤ x.toInt - y.toInt ∧ x.toInt - y.toInt ≤ 9223372036854775807) : z.toInt = x.toInt - y.toInt := by
  rw [h, Int64.toInt_sub]; exact Int.bmod_eq_of_le (by omega) (by omega)
theorem oLmul {x y z : Int64} (h : z = x * y) (b : -9223372036854775808 ≤ x.toInt * y.toInt ∧ x.toInt * y.toInt ≤ 9223372036854775807) : z.toInt = x.toInt * y.toInt := by
  rw [h, Int64.toInt_mul]; exact Int.bmod_eq_of_le (by omega) (by omega)
theorem oIadd {x y z : Int32} (h : z = x + y) (b : -2147483648 ≤ x.toInt + y.toInt ∧ x.toInt + y.toInt ≤ 2147483647) : z.toInt = x.toInt + y.toInt := by
  rw [h, Int32.toInt_add]; exact Int.bmod_eq_of_le (by omega) (by omega)
theorem oIsub {x y z : Int32} (h : z = x - y) (b : -2147483648 ≤ x.toInt - y.toInt ∧ x.toInt - y.toInt ≤ 2147483647) : z.toInt = x.toInt - y.toInt := by
  rw [h, Int32.toInt_sub]; exact Int.bmod_eq_of_le (by omega) (by omega)
theorem oImul {x y z : Int32} (h : z = x * y) (b : -2147483648 ≤ x.toInt * y.toInt ∧ x.toInt * y.toInt ≤ 2147483647) : z.toInt = x.toInt * y.toInt := by
  rw [h, Int32.toInt_mul]; exact Int.bmod_eq_of_le (by omega) (by omega)
theorem oI2L {x : Int32} {z : Int64} (h : z = x.toInt64) : z.toInt = x.toInt := by rw [h]; exact Int32.toInt_toInt64 x
theorem oLcmp {x y : Int64} {v : Int32} (h : v = XT.cmpL x y) : (v < 0 ↔ x.toInt < y.toInt) ∧ (v = 0 ↔ x.toInt = y.toInt) ∧ (0 < v ↔ y.toInt < x.toInt) := by
  rw [h, XT.cmpL]
  simp only [Int64.lt_iff_toInt_lt, ← Int64.toInt_inj]
  by_cases h1 : y.toInt < x.toInt
  · have h2 : ¬ x.toInt = y.toInt := by omega
    have h3 : ¬ x.toInt < y.toInt := by omega
    simp only [h1, h2, h3, if_true, iff_true, iff_false]; decide
  · by_cases h2 : x.toInt = y.toInt
    · have h3 : ¬ x.toInt < y.toInt := by omega
      simp only [h1, h2, if_false, if_true, iff_true, Int.lt_irrefl, iff_false]; decide
    · have h3 : x.toInt < y.toInt := by omega
      simp only [h1, h2, h3, if_false, iff_false, iff_true]; decide
theorem oLt32 {x y : Int32} : x < y ↔ x.toInt < y.toInt := Int32.lt_iff_toInt_lt
theorem oEq32 {x y : Int32} : x = y ↔ x.toInt = y.toInt := Int32.toInt_inj.symm
theorem oEq64 {x y : Int64} : x = y ↔ x.toInt = y.toInt := Int64.toInt_inj.symm
theorem oMask (x : Int32) (k : Nat) (hk : k < 2 ^ 31) : ∃ n : Nat, n ≤ k ∧ (x &&& Int32.ofNat k) = Int32.ofNat n := by
  refine ⟨(x &&& Int32.ofNat k).toBitVec.toNat, ?_, ?_⟩
  · have e : (Int32.ofNat k).toBitVec.toNat = k := by
      show (BitVec.ofNat 32 k).toNat = k
      rw [BitVec.toNat_ofNat]; exact Nat.mod_eq_of_lt (by omega)
    rw [Int32.toBitVec_and, BitVec.toNat_and, e]; exact Nat.and_le_right
  · apply Int32.toBitVec_inj.mp
    show _ = BitVec.ofNat 32 _
    rw [BitVec.ofNat_toNat]; simp
theorem oMask3 {x v : Int32} (h : v = x &&& 3) : v = 0 ∨ v = 1 ∨ v = 2 ∨ v = 3 := by
  obtain ⟨n, hn, e⟩ := oMask x 3 (by decide)
  have e' : v = Int32.ofNat n := h.trans e
  have : n = 0 ∨ n = 1 ∨ n = 2 ∨ n = 3 := by omega
  rcases this with rfl | rfl | rfl | rfl
  · exact Or.inl e'
  · exact Or.inr (Or.inl e')
  · exact Or.inr (Or.inr (Or.inl e'))
  · exact Or.inr (Or.inr (Or.inr e'))
theorem oMask1 {x v : Int32} (h : v = x &&& 1) : v = 0 ∨ v = 1 := by
  obtain ⟨n, hn, e⟩ := oMask x 1 (by decide)
  have e' : v = Int32.ofNat n := h.trans e
  have : n = 0 ∨ n = 1 := by omega
  rcases this with rfl | rfl
  · exact Or.inl e'
  · exact Or.inr e'
theorem oMaskR {x v : Int32} (k : Nat) (hk : k < 2 ^ 31) (h : v = x &&& Int32.ofNat k) : 0 ≤ v.toInt ∧ v.toInt ≤ k := by
  obtain ⟨n, hn, e⟩ := oMask x k hk
  rw [h, e, Int32.toInt_ofNat_of_lt (by omega)]; omega
theorem oRem {u v y : Int32} (k : Int) (h : v = u % y) (hy : y.toInt = k) (hu : 0 ≤ u.toInt) : v.toInt = u.toInt % k := h ▸ (c_irem u y k hy).1 hu
/-! how great a double can be: her exponent's field is below K -/
abbrev oMag (K : Nat) (x : UInt64) : Prop := Jvm.Free.Fl.Mag64 K x
theorem oMNN {K : Nat} {x : UInt64} (h : oMag K x) (hK : K ≤ 2047) : NoNaN64 x := (h.fin hK).noNaN
theorem oMI2D {a : Int32} {v : UInt64} (h : v = FP.i2d a) : oMag 1056 v := h ▸ i2d_mag a
theorem oML2D {a : Int64} {v : UInt64} (h : v = FP.l2d a) : oMag 1088 v := h ▸ l2d_mag a
theorem oMMul {A B K : Nat} {x y v : UInt64} (hx : oMag A x) (hy : oMag B y) (h : v = FP.dmul x y) (b : A ≤ 2047 ∧ B ≤ 2047 ∧ A + B - 1025 + 3 ≤ K) : oMag K v := h ▸ (dmul_mag hx hy b.1 b.2.1).mono b.2.2
theorem oMAdd {A K : Nat} {x y v : UInt64} (hx : oMag A x) (hy : oMag A y) (h : v = FP.dadd x y) (b : A ≤ 2047 ∧ A + 2 ≤ K) : oMag K v := h ▸ (dadd_mag hx hy b.1).mono b.2
theorem oMSub {A K : Nat} {x y v : UInt64} (hx : oMag A x) (hy : oMag A y) (h : v = FP.dsub x y) (b : A ≤ 2047 ∧ A + 2 ≤ K) : oMag K v := h ▸ (dsub_mag hx hy b.1).mono b.2
theorem oMDiv {A L K : Nat} {x y v : UInt64} (hx : oMag A x) (hy : Big64 L y) (h : v = FP.ddiv x y) (b : A ≤ 2047 ∧ 1 ≤ L ∧ A + 1021 - L + 3 ≤ K) : oMag K v := h ▸ (ddiv_mag hx hy b.1 b.2.1).mono b.2.2
theorem oSame {x y : UInt64} {o : CmpOp} {v : Int32} (e : v = cmpValue (FP.dcmp x y) o) (h : x = y) (n : NoNaN64 x) : v = 0 := e.trans (dcmpV_eq h n o)
/-! a double that is no NaN, by its value in units of the least double (an infinity counts as the first number past the greatest) -/
def oZv (i : Int) (x : UInt64) : Prop := Core.val64 x ≠ .nan ∧ Core.zval Core.b64 (Core.val64 x) = i
theorem oZv.of {x : UInt64} (h : NoNaN64 x) : oZv (Core.zval Core.b64 (Core.val64 x)) x := ⟨val64_no.mp h, rfl⟩
theorem oZv.nn {i : Int} {x : UInt64} (h : oZv i x) : NoNaN64 x := val64_no.mpr h.1
theorem oZv.int {i : Int} {x : UInt64} (h : Core.DInt i x) : oZv (i * (Core.one64 : Int)) x := ⟨Core.DInt_ne_nan h, Core.DInt_zval h⟩
theorem oZmono {i j : Int} (h : i ≤ j) : i * (Core.one64 : Int) ≤ j * (Core.one64 : Int) := Int.mul_le_mul_of_nonneg_right h (Int.natCast_nonneg _)
theorem oCmpZ {i j : Int} {x y : UInt64} {o : CmpOp} {v : Int32} (hx : oZv i x) (hy : oZv j y) (h : v = cmpValue (FP.dcmp x y) o) : (v < 0 ↔ i < j) ∧ (v = 0 ↔ i = j) ∧ (0 < v ↔ j < i) := by
  have e : FP.dcmp x y = some (compare i j) := by have := Core.dcmp_zval hx.1 hy.1; rw [hx.2, hy.2] at this; exact this
  rw [h, e, Core.compare_ite]
  by_cases h1 : i < j
  · have h2 : ¬ i = j := by omega
    have h3 : ¬ j < i := by omega
    simp only [h1, if_true, h2, h3, iff_false, iff_true]
    cases o <;> decide
  · by_cases h2 : i = j
    · have h3 : ¬ j < i := by omega
      simp only [h1, h2, if_false, if_true, iff_true, Int.lt_irrefl, iff_false]
      cases o <;> decide
    · have h3 : j < i := by omega
      simp only [h1, h2, h3, if_false, iff_false, iff_true]
      cases o <;> decide
end Nums
section SV
open Jvm.FP Jvm.Free.Fl
/-- the code of a double: a whole number, or 1000 for the tiny constant -/
def oSV (k : Int) (w : UInt64) : Prop := (k = 1000 ∧ w = 118622047889322841) ∨ (k ≠ 1000 ∧ Core.DInt k w)
theorem oSV.of {k : Int} {w : UInt64} (h : Core.DInt k w) (hk : k ≠ 1000) : oSV k w := Or.inr ⟨hk, h⟩
theorem oSV.tiny : oSV 1000 118622047889322841 := Or.inl ⟨rfl, rfl⟩
theorem oTinyZ : oZv (Core.zval Core.b64 (Core.val64 118622047889322841)) 118622047889322841 := oZv.of (by unfold NoNaN64; decide)
theorem oTinyB : 0 < Core.zval Core.b64 (Core.val64 118622047889322841) ∧ Core.zval Core.b64 (Core.val64 118622047889322841) < (Core.one64 : Int) := by decide +kernel
theorem oTinyNe (k : Int) : ¬ Core.zval Core.b64 (Core.val64 118622047889322841) = k * (Core.one64 : Int) := fun h => by
  obtain ⟨h1, h2⟩ := oTinyB
  rw [h] at h1 h2
  have p : (0 : Int) ≤ (Core.one64 : Int) := Int.natCast_nonneg _
  by_cases q : k ≤ 0
  · have := Int.mul_le_mul_of_nonneg_right q p
    omega
  · have := Int.mul_le_mul_of_nonneg_right (show 1 ≤ k by omega) p
    omega
theorem oSV_eq {j k : Int} {x y : UInt64} {o : CmpOp} {v : Int32} (hx : oSV j x) (hy : oSV k y) (e : v = cmpValue (FP.dcmp x y) o) : v = 0 ↔ j = k := by
  rcases hx with ⟨rfl, rfl⟩ | ⟨hj, hx⟩ <;> rcases hy with ⟨rfl, rfl⟩ | ⟨hk, hy⟩
  · rw [(oCmpZ oTinyZ oTinyZ e).2.1]; simp
  · rw [(oCmpZ oTinyZ (oZv.int hy) e).2.1]
    exact ⟨fun h => absurd h (oTinyNe k), fun h => absurd h.symm hk⟩
  · rw [(oCmpZ (oZv.int hx) oTinyZ e).2.1]
    exact ⟨fun h => absurd h.symm (oTinyNe j), fun h => absurd h hj⟩
  · exact (oCmp hx hy e).2.1
end SV
section SV2
open Jvm.FP Jvm.Free.Fl
theorem oSV.nn {k : Int} {x : UInt64} (h : oSV k x) : NoNaN64 x := by
  rcases h with ⟨-, rfl⟩ | ⟨-, h⟩
  · exact oTinyZ.nn
  · exact oNN h
theorem oTinyAdd {D : Int} {x : UInt64} (hx : Core.DInt D x) (hD : D ≠ 0) {c : UInt64} (hc : Core.DInt D c) (h : FP.dadd 118622047889322841 c = c) : FP.dadd 118622047889322841 x = x := by
  rw [Core.dint_unique hD hx hc]; exact h
theorem oSV_add {k D : Int} {w x v : UInt64} (hw : oSV k w) (hx : Core.DInt D x) (hz : D = 0 → x = 0) (hD : -3 ≤ D ∧ D ≤ 3) (hK : k = 1000 ∨ (-9 ≤ k ∧ k ≤ 9)) (e : v = FP.dadd w x) :
    ∃ S : Int, oSV S v ∧ ((k = 1000 ∧ D = 0 ∧ S = 1000) ∨ (k = 1000 ∧ D ≠ 0 ∧ S = D) ∨ (k ≠ 1000 ∧ S = k + D)) := by
  rcases hw with ⟨rfl, rfl⟩ | ⟨hk, hw⟩
  · by_cases q : D = 0
    · refine ⟨1000, ?_, Or.inl ⟨rfl, q, rfl⟩⟩
      rw [e, hz q, show FP.dadd 118622047889322841 0 = 118622047889322841 by decide +kernel]; exact oSV.tiny
    · refine ⟨D, ?_, Or.inr (Or.inl ⟨rfl, q, rfl⟩)⟩
      have hv : v = x := by
        rw [e]
        have : D = -3 ∨ D = -2 ∨ D = -1 ∨ D = 1 ∨ D = 2 ∨ D = 3 := by omega
        rcases this with rfl | rfl | rfl | rfl | rfl | rfl
        · exact oTinyAdd hx q (oDK (-3) rfl (by decide)) (by decide +kernel)
        · exact oTinyAdd hx q (oDK (-2) rfl (by decide)) (by decide +kernel)
        · exact oTinyAdd hx q (oDK (-1) rfl (by decide)) (by decide +kernel)
        · exact oTinyAdd hx q (oDK 1 rfl (by decide)) (by decide +kernel)
        · exact oTinyAdd hx q (oDK 2 rfl (by decide)) (by decide +kernel)
        · exact oTinyAdd hx q (oDK 3 rfl (by decide)) (by decide +kernel)
      rw [hv]; exact oSV.of hx (by omega)
  · exact ⟨k + D, oSV.of (oDAdd hw hx e (by omega)) (by omega), Or.inr (Or.inr ⟨hk, rfl⟩)⟩
end SV2
/-- one entry behind add(p, D) -/
def oFE (t p D W W1 : Int) : Prop := (p = t ∧ ((W = 1000 ∧ D = 0 ∧ W1 = 1000) ∨ (W = 1000 ∧ D ≠ 0 ∧ W1 = D) ∨ (W ≠ 1000 ∧ W = 0 ∧ D = 0 ∧ W1 = 0) ∨ (W ≠ 1000 ∧ ¬ (W = 0 ∧ D = 0) ∧ W + D = 0 ∧ W1 = 1000) ∨ (W ≠ 1000 ∧ W + D ≠ 0 ∧ W1 = W + D))) ∨ (p ≠ t ∧ W1 = W)
def oNEW (p D W0 W1 W2 W3 : Int) : Prop := D ≠ 0 ∧ ((p = 0 ∧ W0 = 0) ∨ (p = 1 ∧ W1 = 0) ∨ (p = 2 ∧ W2 = 0) ∨ (p = 3 ∧ W3 = 0))
/-- the list behind it -/
def oFN (N : Prop) (p n n' x0 x1 x2 y0 y1 y2 : Int) : Prop := (N ∧ n' = n + 1 ∧ ((n = 0 ∧ y0 = p ∧ y1 = x1 ∧ y2 = x2) ∨ (n = 1 ∧ y0 = x0 ∧ y1 = p ∧ y2 = x2) ∨ (n = 2 ∧ y0 = x0 ∧ y1 = x1 ∧ y2 = p))) ∨ (¬ N ∧ n' = n ∧ y0 = x0 ∧ y1 = x1 ∧ y2 = x2)
theorem oFE_a {t p D W : Int} (hp : p = t) (hW : W = 0) (hD : D = 0) : oFE t p D W W := by unfold oFE; omega
theorem oFE_b {t p D W S W1 : Int} (hp : p = t) (f : (W = 1000 ∧ D = 0 ∧ S = 1000) ∨ (W = 1000 ∧ D ≠ 0 ∧ S = D) ∨ (W ≠ 1000 ∧ S = W + D)) (nz : ¬ (W = 0 ∧ D = 0)) (h : (S = 0 ∧ W1 = 1000) ∨ (¬ S = 0 ∧ W1 = S)) (hb : W = 1000 ∨ (-9 ≤ W ∧ W ≤ 9)) : oFE t p D W W1 := by
  refine Or.inl ⟨hp, ?_⟩
  rcases f with ⟨a, b, c⟩ | ⟨a, b, c⟩ | ⟨a, b⟩ <;> rcases h with ⟨e, g⟩ | ⟨e, g⟩ <;> omega
theorem oNoD {p D W0 W1 W2 W3 : Int} (h : D = 0) : ¬ oNEW p D W0 W1 W2 W3 := fun q => q.1 h
theorem oNoW0 {p D W0 W1 W2 W3 : Int} (hp : p = 0) (h : ¬ W0 = 0) : ¬ oNEW p D W0 W1 W2 W3 := by unfold oNEW; omega
theorem oNoW1 {p D W0 W1 W2 W3 : Int} (hp : p = 1) (h : ¬ W1 = 0) : ¬ oNEW p D W0 W1 W2 W3 := by unfold oNEW; omega
theorem oNoW2 {p D W0 W1 W2 W3 : Int} (hp : p = 2) (h : ¬ W2 = 0) : ¬ oNEW p D W0 W1 W2 W3 := by unfold oNEW; omega
theorem oNoW3 {p D W0 W1 W2 W3 : Int} (hp : p = 3) (h : ¬ W3 = 0) : ¬ oNEW p D W0 W1 W2 W3 := by unfold oNEW; omega
theorem own_new1 {I D : Int} (h : 0 ≤ I ∧ I ≤ 3) : oNEW I D 0 0 0 0 ↔ D ≠ 0 := by unfold oNEW; omega
theorem own_new2 {I J D1 D2 A0 A1 A2 A3 : Int} (h : 0 ≤ J ∧ J ≤ 3) (d : (-3 ≤ D1 ∧ D1 ≤ 3)) (h0 : oFE 0 I D1 0 A0) (h1 : oFE 1 I D1 0 A1) (h2 : oFE 2 I D1 0 A2) (h3 : oFE 3 I D1 0 A3) : oNEW J D2 A0 A1 A2 A3 ↔ (D2 ≠ 0 ∧ ¬ (D1 ≠ 0 ∧ I = J)) := by
  have q : J = 0 ∨ J = 1 ∨ J = 2 ∨ J = 3 := by omega
  rcases q with rfl | rfl | rfl | rfl
  · unfold oFE at h0; unfold oNEW; omega
  · unfold oFE at h1; unfold oNEW; omega
  · unfold oFE at h2; unfold oNEW; omega
  · unfold oFE at h3; unfold oNEW; omega
theorem own_z2 {t I J D1 D2 A B : Int} (d : (-3 ≤ D1 ∧ D1 ≤ 3) ∧ -3 ≤ D2 ∧ D2 ≤ 3) (h1 : oFE t I D1 0 A) (h2 : oFE t J D2 A B) : B = 0 ↔ ¬ (D1 ≠ 0 ∧ I = t) ∧ ¬ (D2 ≠ 0 ∧ J = t) := by
  unfold oFE at h1 h2
  by_cases q : I = t <;> by_cases r : J = t <;> omega
theorem own_new3 {I J L D1 D2 D3 A0 A1 A2 A3 B0 B1 B2 B3 : Int} (h : 0 ≤ L ∧ L ≤ 3) (d : (-3 ≤ D1 ∧ D1 ≤ 3) ∧ -3 ≤ D2 ∧ D2 ≤ 3) (h0 : oFE 0 I D1 0 A0) (h1 : oFE 1 I D1 0 A1) (h2 : oFE 2 I D1 0 A2) (h3 : oFE 3 I D1 0 A3) (g0 : oFE 0 J D2 A0 B0) (g1 : oFE 1 J D2 A1 B1) (g2 : oFE 2 J D2 A2 B2) (g3 : oFE 3 J D2 A3 B3) :
    oNEW L D3 B0 B1 B2 B3 ↔ (D3 ≠ 0 ∧ ¬ (D1 ≠ 0 ∧ I = L) ∧ ¬ (D2 ≠ 0 ∧ J = L)) := by
  have q : L = 0 ∨ L = 1 ∨ L = 2 ∨ L = 3 := by omega
  unfold oNEW
  rw [own_z2 d h0 g0, own_z2 d h1 g1, own_z2 d h2 g2, own_z2 d h3 g3]
  rcases q with rfl | rfl | rfl | rfl <;> omega
/-- what entry() wants of the place t -/
def oST (t I k s0 t0 s1 t1 : Int) : Prop := (I = t ∧ s1 = s0 + k ∧ ((k ≠ 0 ∧ t1 = 1) ∨ (k = 0 ∧ t1 = t0))) ∨ (I ≠ t ∧ s1 = s0 ∧ t1 = t0)
def oEX (t I1 K1 I2 K2 I3 K3 E : Int) : Prop := ∃ s1 t1 s2 t2 s3 t3 : Int, oST t I1 K1 0 0 s1 t1 ∧ oST t I2 K2 s1 t1 s2 t2 ∧ oST t I3 K3 s2 t2 s3 t3 ∧ ((t3 = 0 ∧ E = 0) ∨ (t3 ≠ 0 ∧ s3 = 0 ∧ E = 1000) ∨ (t3 ≠ 0 ∧ s3 ≠ 0 ∧ E = s3))
theorem own_vt {t I1 K1 I2 K2 I3 K3 E W1 W2 W3 : Int} (d : (-3 ≤ K1 ∧ K1 ≤ 3) ∧ (-3 ≤ K2 ∧ K2 ≤ 3) ∧ -3 ≤ K3 ∧ K3 ≤ 3) (h1 : oFE t I1 K1 0 W1) (h2 : oFE t I2 K2 W1 W2) (h3 : oFE t I3 K3 W2 W3) (hE : oEX t I1 K1 I2 K2 I3 K3 E) : W3 = E := by
  obtain ⟨s1, t1, s2, t2, s3, t3, e1, e2, e3, e4⟩ := hE
  unfold oST at e1 e2 e3
  have f1 : (I1 = t ∧ K1 ≠ 0 ∧ W1 = K1 ∧ s1 = K1 ∧ t1 = 1) ∨ (¬ (I1 = t ∧ K1 ≠ 0) ∧ W1 = 0 ∧ s1 = 0 ∧ t1 = 0) := by
    unfold oFE at h1; clear h2 h3 e2 e3 e4
    rcases h1 with ⟨b0, b | b | b | b | b⟩ | ⟨b0, b⟩ <;> rcases e1 with ⟨c0, c1, c | c⟩ | ⟨c0, c1, c2⟩ <;> omega
  clear h1 e1
  have f2 : (t2 = 0 ∧ W2 = 0 ∧ s2 = 0) ∨ (t2 = 1 ∧ s2 = 0 ∧ W2 = 1000) ∨ (t2 = 1 ∧ s2 ≠ 0 ∧ W2 = s2 ∧ -6 ≤ s2 ∧ s2 ≤ 6) := by
    unfold oFE at h2; clear h3 e3 e4
    rcases h2 with ⟨b0, b | b | b | b | b⟩ | ⟨b0, b⟩ <;> rcases e2 with ⟨c0, c1, c | c⟩ | ⟨c0, c1, c2⟩ <;> rcases f1 with ⟨a1, a2, a3, a4, a5⟩ | ⟨a1, a2, a3, a4⟩ <;> omega
  clear h2 e2 f1
  have f3 : (t3 = 0 ∧ W3 = 0) ∨ (t3 = 1 ∧ s3 = 0 ∧ W3 = 1000) ∨ (t3 = 1 ∧ s3 ≠ 0 ∧ W3 = s3) := by
    unfold oFE at h3; clear e4
    rcases h3 with ⟨b0, b | b | b | b | b⟩ | ⟨b0, b⟩ <;> rcases e3 with ⟨c0, c1, c | c⟩ | ⟨c0, c1, c2⟩ <;> rcases f2 with ⟨a1, a2, a3⟩ | ⟨a1, a2, a3⟩ | ⟨a1, a2, a3, a4⟩ <;> omega
  clear h3 e3 f2
  omega
theorem oRem4 {u v : Int32} (h : v = u % 4) : -3 ≤ v.toInt ∧ v.toInt ≤ 3 := by
  obtain ⟨p, q⟩ := c_irem u 4 4 (by decide)
  by_cases r : 0 ≤ u.toInt
  · have := p r; rw [h]; omega
  · have := q (by omega); rw [h]; omega
theorem oZ0 {a : Int32} {v : UInt64} (h : v = FP.i2d a) : a.toInt = 0 → v = 0 := fun q => by
  rw [h, show a = 0 from oEq32.mpr q]; decide +kernel
theorem own_bd2 {t I D W : Int} (d : -3 ≤ D ∧ D ≤ 3) (h : oFE t I D 0 W) : W = 1000 ∨ (-9 ≤ W ∧ W ≤ 9) := by unfold oFE at h; omega
theorem own_bd3 {t I J D1 D2 W1 W : Int} (d : (-3 ≤ D1 ∧ D1 ≤ 3) ∧ -3 ≤ D2 ∧ D2 ≤ 3) (h : oFE t I D1 0 W1) (g : oFE t J D2 W1 W) : W = 1000 ∨ (-9 ≤ W ∧ W ≤ 9) := by
  have b : W1 = 1000 ∨ (-3 ≤ W1 ∧ W1 ≤ 3) := by unfold oFE at h; omega
  clear h; unfold oFE at g; omega
theorem own_bn {N : Prop} {p n n' x0 x1 x2 y0 y1 y2 : Int} (h : oFN N p n n' x0 x1 x2 y0 y1 y2) : n ≤ n' ∧ n' ≤ n + 1 := by
  rcases h with ⟨-, b, -⟩ | ⟨-, b, -⟩ <;> omega
def oJN (g n n' i a b d a' b' d' : Int) : Prop := (g = 1 ∧ n' = n + 1 ∧ ((n = 0 ∧ a' = i ∧ b' = b ∧ d' = d) ∨ (n = 1 ∧ a' = a ∧ b' = i ∧ d' = d) ∨ (n = 2 ∧ a' = a ∧ b' = b ∧ d' = i))) ∨ (g = 0 ∧ n' = n ∧ a' = a ∧ b' = b ∧ d' = d)
theorem own_J {N : Prop} {p n n' x0 x1 x2 y0 y1 y2 g ec ec' a b d a' b' d' : Int} (hN : oFN N p n n' x0 x1 x2 y0 y1 y2) (hg : (g = 1 ∧ N) ∨ (g = 0 ∧ ¬ N)) (hj : oJN g ec ec' p a b d a' b' d') (inv : ec = n ∧ (0 < n → a = x0) ∧ (1 < n → b = x1) ∧ (2 < n → d = x2)) : ec' = n' ∧ (0 < n' → a' = y0) ∧ (1 < n' → b' = y1) ∧ (2 < n' → d' = y2) := by
  obtain ⟨i1, i2, i3, i4⟩ := inv
  rcases hN with ⟨hN1, hN2, hN3⟩ | ⟨hN1, hN2, hN3⟩
  · rcases hg with ⟨hg, -⟩ | ⟨-, q⟩
    · rcases hj with ⟨-, h1, h2⟩ | ⟨q, -⟩
      · rcases hN3 with ⟨u0, u1, u2, u3⟩ | ⟨u0, u1, u2, u3⟩ | ⟨u0, u1, u2, u3⟩ <;> rcases h2 with ⟨w0, w1, w2, w3⟩ | ⟨w0, w1, w2, w3⟩ | ⟨w0, w1, w2, w3⟩ <;> refine ⟨by omega, fun z => ?_, fun z => ?_, fun z => ?_⟩ <;> first | omega | (have := i2 (by omega); omega) | (have := i3 (by omega); omega)
      · omega
    · exact absurd hN1 q
  · rcases hg with ⟨-, q⟩ | ⟨hg, -⟩
    · exact absurd q hN1
    · rcases hj with ⟨q, -⟩ | ⟨-, h1, h2⟩
      · omega
      · exact ⟨by omega, fun z => by have := i2 (by omega); omega, fun z => by have := i3 (by omega); omega, fun z => by have := i4 (by omega); omega⟩
theorem d1_0 : decode prog_45_method_1_code 0 = .ok (.aload_n 0, 1) := by decide +kernel
theorem d1_1 : decode prog_45_method_1_code 1 = .ok (.invokespecial 1, 3) := by decide +kernel
theorem d1_4 : decode prog_45_method_1_code 4 = .ok (.aload_n 0, 1) := by decide +kernel
theorem d1_5 : decode prog_45_method_1_code 5 = .ok (.iload_n 1, 1) := by decide +kernel
theorem d1_6 : decode prog_45_method_1_code 6 = .ok (.newarray .double, 2) := by decide +kernel
theorem d1_8 : decode prog_45_method_1_code 8 = .ok (.putfield 7, 3) := by decide +kernel
theorem d1_11 : decode prog_45_method_1_code 11 = .ok (.aload_n 0, 1) := by decide +kernel
theorem d1_12 : decode prog_45_method_1_code 12 = .ok (.iload_n 1, 1) := by decide +kernel
theorem d1_13 : decode prog_45_method_1_code 13 = .ok (.newarray .int, 2) := by decide +kernel
theorem d1_15 : decode prog_45_method_1_code 15 = .ok (.putfield 13, 3) := by decide +kernel
theorem d1_18 : decode prog_45_method_1_code 18 = .ok (.return_, 1) := by decide +kernel
theorem oLd_0 {Z : State} {a0 : Array Value} (hw : ∀ d ∈ tables_1, d.before a0 Z = true) : ∀ f ∈ ([("com/example/lotwise/lotwise/search/SparseVector", "values", "[D", .null), ("com/example/lotwise/lotwise/search/SparseVector", "index", "[I", .null), ("com/example/lotwise/lotwise/search/SparseVector", "count", "I", (.int (0 : Int32)))] : List (String × String × String × Value)), Laid Z a0 "com/example/lotwise/lotwise/search/SparseVector" f.1 f.2.1 f.2.2.1 ∧ ∃ t, parseFieldDescriptor f.2.2.1 = some t ∧ f.2.2.2 = defaultValue t := by
    intro f hf
    simp only [List.mem_cons, List.not_mem_nil, or_false] at hf
    rcases hf with rfl | rfl | rfl
    · exact ⟨Or.inl (hw _ (List.mem_of_getElem? (i := 11) rfl)), (.array .double), (by decide : parseFieldDescriptor "[D" = some (.array .double)), rfl⟩
    · exact ⟨Or.inl (hw _ (List.mem_of_getElem? (i := 14) rfl)), (.array .int), (by decide : parseFieldDescriptor "[I" = some (.array .int)), rfl⟩
    · exact ⟨Or.inl (hw _ (List.mem_of_getElem? (i := 21) rfl)), .int, (by decide : parseFieldDescriptor "I" = some .int), rfl⟩
theorem oAp_0 {Z : State} {a0 : Array Value} (hw : ∀ d ∈ tables_1, d.before a0 Z = true) {y0 y1 y2 : Value} : oApart Z [("com/example/lotwise/lotwise/search/SparseVector", "values", "[D", y0), ("com/example/lotwise/lotwise/search/SparseVector", "index", "[I", y1), ("com/example/lotwise/lotwise/search/SparseVector", "count", "I", y2)] := by
  refine oApart.of (C := "com/example/lotwise/lotwise/search/SparseVector") (a0 := a0) (fun f hf => ?_) (by show (["values", "index", "count"] : List String).Nodup; decide)
  · simp only [List.mem_cons, List.not_mem_nil, or_false] at hf
    rcases hf with rfl | rfl | rfl
    · exact ⟨Or.inl (hw _ (List.mem_of_getElem? (i := 11) rfl)), (.array .double), (by decide : parseFieldDescriptor "[D" = some (.array .double))⟩
    · exact ⟨Or.inl (hw _ (List.mem_of_getElem? (i := 14) rfl)), (.array .int), (by decide : parseFieldDescriptor "[I" = some (.array .int))⟩
    · exact ⟨Or.inl (hw _ (List.mem_of_getElem? (i := 21) rfl)), .int, (by decide : parseFieldDescriptor "I" = some .int)⟩
set_option maxRecDepth 65536 in
set_option maxHeartbeats 40000000 in
theorem own_init {l : Launch} {Z : State} {a0 : Array Value} {h0 : Heap} (hw : ∀ d ∈ tables_1, d.before a0 Z = true) (a : Addr) :
    oCtr l Z h0 [] (⟨"com/example/lotwise/lotwise/search/SparseVector", "<init>", "(I)V"⟩ : MethodName) prog_45_method_1_code 2 none ({ frames := 1, cells := 2, slots := 8, locals := 12 } : Room) #[(.ref a), (.int (4 : Int32))] [(a, .inr ("com/example/lotwise/lotwise/search/SparseVector", [("com/example/lotwise/lotwise/search/SparseVector", "values", "[D", .null), ("com/example/lotwise/lotwise/search/SparseVector", "index", "[I", .null), ("com/example/lotwise/lotwise/search/SparseVector", "count", "I", (.int (0 : Int32)))]))] (oVoid fun dd => ∃ b d : Addr, dd = [(a, .inr ("com/example/lotwise/lotwise/search/SparseVector", [("com/example/lotwise/lotwise/search/SparseVector", "values", "[D", (.ref b)), ("com/example/lotwise/lotwise/search/SparseVector", "index", "[I", (.ref d)), ("com/example/lotwise/lotwise/search/SparseVector", "count", "I", (.int (0 : Int32)))])), (b, .inl (.double, [(.double (0 : UInt64)), (.double (0 : UInt64)), (.double (0 : UInt64)), (.double (0 : UInt64))])), (d, .inl (.int, [(.int (0 : Int32)), (.int (0 : Int32)), (.int (0 : Int32)), (.int (0 : Int32))]))]) := by
  refine oCtr.of (Ls := #[.val (.ref a), .val (.int (4 : Int32))]) (plainFor_of_name (by first | (simp [plainName, overriddenIn]; done) | decide +kernel)) (fun m => by first | (simp [entryFrame, mkF, argsToLocals, Value.category]; done) | rfl) ?_
  intro p e s m below meth c K
  refine oW.aloadN (pc' := 1) K d1_0 rfl rfl rfl ?_
  refine oW.initO (W := 0) (pc' := 4) K (hw _ (List.mem_of_getElem? (i := 6) rfl)) (hw _ (List.mem_of_getElem? (i := 7) rfl)) (hw _ (List.mem_of_getElem? (i := 8) rfl)) d1_1 rfl (by decide) (Nat.le_of_eq rfl) (by decide) rfl ?_
  refine oW.aloadN (pc' := 5) K d1_4 rfl rfl rfl ?_
  refine oW.iloadN (pc' := 6) K d1_5 rfl rfl ?_
  refine oW.newarr (n := 4) (cells' := 1) (slots' := 4) (dsf := fun z => [(a, .inr ("com/example/lotwise/lotwise/search/SparseVector", [("com/example/lotwise/lotwise/search/SparseVector", "values", "[D", .null), ("com/example/lotwise/lotwise/search/SparseVector", "index", "[I", .null), ("com/example/lotwise/lotwise/search/SparseVector", "count", "I", (.int (0 : Int32)))])), (z, .inl (.double, [(.double (0 : UInt64)), (.double (0 : UInt64)), (.double (0 : UInt64)), (.double (0 : UInt64))]))]) (pc' := 8) K (hw _ (List.mem_of_getElem? (i := 9) rfl)) d1_6 rfl (by decide) (by decide) (by decide) (by decide) rfl rfl (fun _ => rfl) rfl ?_
  intro a6 ha6
  refine oW.putf (i := 0) (q := 0) (ty := (.array .double)) (ds' := [(a, .inr ("com/example/lotwise/lotwise/search/SparseVector", [("com/example/lotwise/lotwise/search/SparseVector", "values", "[D", (.ref a6)), ("com/example/lotwise/lotwise/search/SparseVector", "index", "[I", .null), ("com/example/lotwise/lotwise/search/SparseVector", "count", "I", (.int (0 : Int32)))])), (a6, .inl (.double, [(.double (0 : UInt64)), (.double (0 : UInt64)), (.double (0 : UInt64)), (.double (0 : UInt64))]))]) (pc' := 11) K (hw _ (List.mem_of_getElem? (i := 10) rfl)) (Or.inl (hw _ (List.mem_of_getElem? (i := 11) rfl))) (hw _ (List.mem_of_getElem? (i := 1) rfl)) (oAp_0 hw) d1_8 rfl rfl (by decide) rfl rfl rfl rfl ?_
  refine oW.aloadN (pc' := 12) K d1_11 rfl rfl rfl ?_
  refine oW.iloadN (pc' := 13) K d1_12 rfl rfl ?_
  refine oW.newarr (n := 4) (cells' := 2) (slots' := 8) (dsf := fun z => [(a, .inr ("com/example/lotwise/lotwise/search/SparseVector", [("com/example/lotwise/lotwise/search/SparseVector", "values", "[D", (.ref a6)), ("com/example/lotwise/lotwise/search/SparseVector", "index", "[I", .null), ("com/example/lotwise/lotwise/search/SparseVector", "count", "I", (.int (0 : Int32)))])), (a6, .inl (.double, [(.double (0 : UInt64)), (.double (0 : UInt64)), (.double (0 : UInt64)), (.double (0 : UInt64))])), (z, .inl (.int, [(.int (0 : Int32)), (.int (0 : Int32)), (.int (0 : Int32)), (.int (0 : Int32))]))]) (pc' := 15) K (hw _ (List.mem_of_getElem? (i := 12) rfl)) d1_13 rfl (by decide) (by decide) (by decide) (by decide) rfl rfl (fun _ => rfl) rfl ?_
  intro a13 ha13
  refine oW.putf (i := 0) (q := 1) (ty := (.array .int)) (ds' := [(a, .inr ("com/example/lotwise/lotwise/search/SparseVector", [("com/example/lotwise/lotwise/search/SparseVector", "values", "[D", (.ref a6)), ("com/example/lotwise/lotwise/search/SparseVector", "index", "[I", (.ref a13)), ("com/example/lotwise/lotwise/search/SparseVector", "count", "I", (.int (0 : Int32)))])), (a6, .inl (.double, [(.double (0 : UInt64)), (.double (0 : UInt64)), (.double (0 : UInt64)), (.double (0 : UInt64))])), (a13, .inl (.int, [(.int (0 : Int32)), (.int (0 : Int32)), (.int (0 : Int32)), (.int (0 : Int32))]))]) (pc' := 18) K (hw _ (List.mem_of_getElem? (i := 13) rfl)) (Or.inl (hw _ (List.mem_of_getElem? (i := 14) rfl))) (hw _ (List.mem_of_getElem? (i := 1) rfl)) (oAp_0 hw) d1_15 rfl rfl (by decide) rfl rfl rfl rfl ?_
  exact oW.retV K rfl d1_18 (by decide) (by decide) ⟨rfl, _, _, rfl⟩
theorem d3_0 : decode prog_45_method_3_code 0 = .ok (.aload_n 0, 1) := by decide +kernel
theorem d3_1 : decode prog_45_method_3_code 1 = .ok (.getfield 7, 3) := by decide +kernel
theorem d3_4 : decode prog_45_method_3_code 4 = .ok (.iload_n 1, 1) := by decide +kernel
theorem d3_5 : decode prog_45_method_3_code 5 = .ok (.daload, 1) := by decide +kernel
theorem d3_6 : decode prog_45_method_3_code 6 = .ok (.dstore 4, 2) := by decide +kernel
theorem d3_8 : decode prog_45_method_3_code 8 = .ok (.dload 4, 2) := by decide +kernel
theorem d3_10 : decode prog_45_method_3_code 10 = .ok (.dconst 0, 1) := by decide +kernel
theorem d3_11 : decode prog_45_method_3_code 11 = .ok (.dcmp .l, 1) := by decide +kernel
theorem d3_12 : decode prog_45_method_3_code 12 = .ok (.ifCond .ne 30, 3) := by decide +kernel
theorem d3_15 : decode prog_45_method_3_code 15 = .ok (.dload_n 2, 1) := by decide +kernel
theorem d3_16 : decode prog_45_method_3_code 16 = .ok (.dconst 0, 1) := by decide +kernel
theorem d3_17 : decode prog_45_method_3_code 17 = .ok (.dcmp .l, 1) := by decide +kernel
theorem d3_18 : decode prog_45_method_3_code 18 = .ok (.ifCond .ne 4, 3) := by decide +kernel
theorem d3_21 : decode prog_45_method_3_code 21 = .ok (.return_, 1) := by decide +kernel
theorem d3_22 : decode prog_45_method_3_code 22 = .ok (.aload_n 0, 1) := by decide +kernel
theorem d3_23 : decode prog_45_method_3_code 23 = .ok (.getfield 13, 3) := by decide +kernel
theorem d3_26 : decode prog_45_method_3_code 26 = .ok (.aload_n 0, 1) := by decide +kernel
theorem d3_27 : decode prog_45_method_3_code 27 = .ok (.getfield 26, 3) := by decide +kernel
theorem d3_30 : decode prog_45_method_3_code 30 = .ok (.iload_n 1, 1) := by decide +kernel
theorem d3_31 : decode prog_45_method_3_code 31 = .ok (.iastore, 1) := by decide +kernel
theorem d3_32 : decode prog_45_method_3_code 32 = .ok (.aload_n 0, 1) := by decide +kernel
theorem d3_33 : decode prog_45_method_3_code 33 = .ok (.dup, 1) := by decide +kernel
theorem d3_34 : decode prog_45_method_3_code 34 = .ok (.getfield 26, 3) := by decide +kernel
theorem d3_37 : decode prog_45_method_3_code 37 = .ok (.iconst 1, 1) := by decide +kernel
theorem d3_38 : decode prog_45_method_3_code 38 = .ok (.iadd, 1) := by decide +kernel
theorem d3_39 : decode prog_45_method_3_code 39 = .ok (.putfield 26, 3) := by decide +kernel
theorem d3_42 : decode prog_45_method_3_code 42 = .ok (.dload 4, 2) := by decide +kernel
theorem d3_44 : decode prog_45_method_3_code 44 = .ok (.dload_n 2, 1) := by decide +kernel
theorem d3_45 : decode prog_45_method_3_code 45 = .ok (.dadd, 1) := by decide +kernel
theorem d3_46 : decode prog_45_method_3_code 46 = .ok (.dstore 6, 2) := by decide +kernel
theorem d3_48 : decode prog_45_method_3_code 48 = .ok (.aload_n 0, 1) := by decide +kernel
theorem d3_49 : decode prog_45_method_3_code 49 = .ok (.getfield 7, 3) := by decide +kernel
theorem d3_52 : decode prog_45_method_3_code 52 = .ok (.iload_n 1, 1) := by decide +kernel
theorem d3_53 : decode prog_45_method_3_code 53 = .ok (.dload 6, 2) := by decide +kernel
theorem d3_55 : decode prog_45_method_3_code 55 = .ok (.dconst 0, 1) := by decide +kernel
theorem d3_56 : decode prog_45_method_3_code 56 = .ok (.dcmp .l, 1) := by decide +kernel
theorem d3_57 : decode prog_45_method_3_code 57 = .ok (.ifCond .ne 9, 3) := by decide +kernel
theorem d3_60 : decode prog_45_method_3_code 60 = .ok (.ldc2_w 30, 3) := by decide +kernel
theorem d3_63 : decode prog_45_method_3_code 63 = .ok (.goto 5, 3) := by decide +kernel
theorem d3_66 : decode prog_45_method_3_code 66 = .ok (.dload 6, 2) := by decide +kernel
theorem d3_68 : decode prog_45_method_3_code 68 = .ok (.dastore, 1) := by decide +kernel
theorem d3_69 : decode prog_45_method_3_code 69 = .ok (.return_, 1) := by decide +kernel
set_option maxRecDepth 65536 in
set_option maxHeartbeats 40000000 in
theorem own_add {l : Launch} {Z : State} {a0 : Array Value} {h0 : Heap} (hw : ∀ d ∈ tables_1, d.before a0 Z = true) (a b d : Addr) (pi : Int32) (hp : 0 ≤ pi.toInt ∧ pi.toInt ≤ 3) (v : UInt64) (D : Int) (hv : FP.Core.DInt D v) (hz : D = 0 → v = 0) (hD : -3 ≤ D ∧ D ≤ 3) (w0 w1 w2 w3 : UInt64) (W0 W1 W2 W3 : Int) (hw0 : oSV W0 w0) (hw1 : oSV W1 w1) (hw2 : oSV W2 w2) (hw3 : oSV W3 w3) (hb0 : W0 = 1000 ∨ (-9 ≤ W0 ∧ W0 ≤ 9)) (hb1 : W1 = 1000 ∨ (-9 ≤ W1 ∧ W1 ≤ 9)) (hb2 : W2 = 1000 ∨ (-9 ≤ W2 ∧ W2 ≤ 9)) (hb3 : W3 = 1000 ∨ (-9 ≤ W3 ∧ W3 ≤ 9)) (x0 x1 x2 x3 nn : Int32) (hn : 0 ≤ nn.toInt ∧ nn.toInt ≤ 2) :
    oCtr l Z h0 [] (⟨"com/example/lotwise/lotwise/search/SparseVector", "add", "(ID)V"⟩ : MethodName) prog_45_method_3_code 8 none ({ frames := 0, cells := 0, slots := 0, locals := 0 } : Room) #[(.ref a), (.int pi), (.double v)] [(a, .inr ("com/example/lotwise/lotwise/search/SparseVector", [("com/example/lotwise/lotwise/search/SparseVector", "values", "[D", (.ref b)), ("com/example/lotwise/lotwise/search/SparseVector", "index", "[I", (.ref d)), ("com/example/lotwise/lotwise/search/SparseVector", "count", "I", (.int nn))])), (b, .inl (.double, [(.double w0), (.double w1), (.double w2), (.double w3)])), (d, .inl (.int, [(.int x0), (.int x1), (.int x2), (.int x3)]))] (oVoid fun dd => ∃ (w0' w1' w2' w3' : UInt64) (W0' W1' W2' W3' : Int) (x0' x1' x2' x3' n' : Int32), dd = [(a, .inr ("com/example/lotwise/lotwise/search/SparseVector", [("com/example/lotwise/lotwise/search/SparseVector", "values", "[D", (.ref b)), ("com/example/lotwise/lotwise/search/SparseVector", "index", "[I", (.ref d)), ("com/example/lotwise/lotwise/search/SparseVector", "count", "I", (.int n'))])), (b, .inl (.double, [(.double w0'), (.double w1'), (.double w2'), (.double w3')])), (d, .inl (.int, [(.int x0'), (.int x1'), (.int x2'), (.int x3')]))] ∧ oSV W0' w0' ∧ oSV W1' w1' ∧ oSV W2' w2' ∧ oSV W3' w3' ∧ oFE 0 (pi.toInt) (D) (W0) (W0') ∧ oFE 1 (pi.toInt) (D) (W1) (W1') ∧ oFE 2 (pi.toInt) (D) (W2) (W2') ∧ oFE 3 (pi.toInt) (D) (W3) (W3') ∧ oFN (oNEW (pi.toInt) (D) (W0) (W1) (W2) (W3)) (pi.toInt) (nn.toInt) (n'.toInt) (x0.toInt) (x1.toInt) (x2.toInt) (x0'.toInt) (x1'.toInt) (x2'.toInt)) := by
  refine oCtr.of (Ls := #[.val (.ref a), .val (.int pi), .val (.double v), .second, .unset, .unset, .unset, .unset]) (plainFor_of_name (by first | (simp [plainName, overriddenIn]; done) | decide +kernel)) (fun m => by first | (simp [entryFrame, mkF, argsToLocals, Value.category]; done) | rfl) ?_
  intro p e s m below meth c K
  have hp' : pi = 0 ∨ pi = 1 ∨ pi = 2 ∨ pi = 3 := by simp only [oEq32, Int32.reduceToInt]; omega
  have hn' : nn = 0 ∨ nn = 1 ∨ nn = 2 := by simp only [oEq32, Int32.reduceToInt]; omega
  rcases hp' with hpi | hpi | hpi | hpi
  · subst hpi
    rcases hn' with hnn | hnn | hnn
    · subst hnn
      refine oW.aloadN (pc' := 1) K d3_0 rfl rfl rfl ?_
      refine oW.getf (i := 0) (q := 0) (pc' := 4) K (hw _ (List.mem_of_getElem? (i := 10) rfl)) d3_1 rfl rfl rfl ?_
      refine oW.iloadN (pc' := 5) K d3_4 rfl rfl ?_
      refine oW.daload (i := 1) (k := 0) (pc' := 6) K d3_5 rfl rfl (by decide) rfl rfl ?_
      refine oW.dstore (Ls' := #[.val (.ref a), .val (.int (0 : Int32)), .val (.double v), .second, .val (.double w0), .second, .unset, .unset]) (pc' := 8) K d3_6 rfl rfl ?_
      refine oW.dload (pc' := 10) K d3_8 rfl rfl ?_
      refine oW.dconst0 (pc' := 11) K d3_10 rfl ?_
      obtain ⟨v11, ev11⟩ : ∃ z : Int32, z = cmpValue (FP.dcmp w0 (0 : UInt64)) .l := ⟨_, rfl⟩
      refine oW.dcmp (pc' := 12) K d3_11 ev11 rfl ?_
      refine oW.if_ne (pc' := 42) (pc3 := 15) K d3_12 (by decide) (by decide) rfl (fun c12 => ?_) (fun c12 => ?_)
      · rw [oSV_eq hw0 (oSV.of (oDK 0 (by decide +kernel) (by decide)) (by first | omega | (have oTs' := oTs; omega) | (simp only [Int32.reduceToInt, Int64.reduceToInt]; omega))) ev11] at c12
        refine oW.dload (pc' := 44) K d3_42 rfl rfl ?_
        refine oW.dloadN (pc' := 45) K d3_44 rfl rfl ?_
        obtain ⟨v45, ev45⟩ : ∃ z : UInt64, z = FP.dadd w0 v := ⟨_, rfl⟩
        obtain ⟨Sv45, sv45, fv45⟩ := oSV_add hw0 hv hz hD hb0 ev45
        refine oW.dadd (pc' := 46) K d3_45 ev45 (oSV.nn sv45) rfl ?_
        refine oW.dstore (Ls' := #[.val (.ref a), .val (.int (0 : Int32)), .val (.double v), .second, .val (.double w0), .second, .val (.double v45), .second]) (pc' := 48) K d3_46 rfl rfl ?_
        refine oW.aloadN (pc' := 49) K d3_48 rfl rfl rfl ?_
        refine oW.getf (i := 0) (q := 0) (pc' := 52) K (hw _ (List.mem_of_getElem? (i := 10) rfl)) d3_49 rfl rfl rfl ?_
        refine oW.iloadN (pc' := 53) K d3_52 rfl rfl ?_
        refine oW.dload (pc' := 55) K d3_53 rfl rfl ?_
        refine oW.dconst0 (pc' := 56) K d3_55 rfl ?_
        obtain ⟨v56, ev56⟩ : ∃ z : Int32, z = cmpValue (FP.dcmp v45 (0 : UInt64)) .l := ⟨_, rfl⟩
        refine oW.dcmp (pc' := 57) K d3_56 ev56 rfl ?_
        refine oW.if_ne (pc' := 66) (pc3 := 60) K d3_57 (by decide) (by decide) rfl (fun c57 => ?_) (fun c57 => ?_)
        · rw [oSV_eq sv45 (oSV.of (oDK 0 (by decide +kernel) (by decide)) (by first | omega | (have oTs' := oTs; omega) | (simp only [Int32.reduceToInt, Int64.reduceToInt]; omega))) ev56] at c57
          refine oW.dload (pc' := 68) K d3_66 rfl rfl ?_
          refine oW.dastore (i := 1) (k := 0) (ds' := [(a, .inr ("com/example/lotwise/lotwise/search/SparseVector", [("com/example/lotwise/lotwise/search/SparseVector", "values", "[D", (.ref b)), ("com/example/lotwise/lotwise/search/SparseVector", "index", "[I", (.ref d)), ("com/example/lotwise/lotwise/search/SparseVector", "count", "I", (.int (0 : Int32)))])), (b, .inl (.double, [(.double v45), (.double w1), (.double w2), (.double w3)])), (d, .inl (.int, [(.int x0), (.int x1), (.int x2), (.int x3)]))]) (pc' := 69) K d3_68 rfl rfl (by decide) (Nat.lt_of_sub_eq_succ rfl) rfl rfl ?_
          exact oW.retV K rfl d3_69 (by decide) (by decide) ⟨rfl, v45, w1, w2, w3, (Sv45), (W1), (W2), (W3), x0, x1, x2, x3, (0 : Int32), rfl, sv45, hw1, hw2, hw3, oFE_b rfl fv45 (fun z => c12 z.1) (Or.inr ⟨c57, rfl⟩) hb0, Or.inr ⟨by decide, rfl⟩, Or.inr ⟨by decide, rfl⟩, Or.inr ⟨by decide, rfl⟩, Or.inr ⟨oNoW0 rfl c12, rfl, rfl, rfl, rfl⟩⟩
        · rw [oSV_eq sv45 (oSV.of (oDK 0 (by decide +kernel) (by decide)) (by first | omega | (have oTs' := oTs; omega) | (simp only [Int32.reduceToInt, Int64.reduceToInt]; omega))) ev56] at c57
          refine oW.ldc2D (pc' := 63) K (hw _ (List.mem_of_getElem? (i := 29) rfl)) d3_60 rfl ?_
          refine oW.goto (pc' := 68) K d3_63 (by decide) (by decide) ?_
          refine oW.dastore (i := 1) (k := 0) (ds' := [(a, .inr ("com/example/lotwise/lotwise/search/SparseVector", [("com/example/lotwise/lotwise/search/SparseVector", "values", "[D", (.ref b)), ("com/example/lotwise/lotwise/search/SparseVector", "index", "[I", (.ref d)), ("com/example/lotwise/lotwise/search/SparseVector", "count", "I", (.int (0 : Int32)))])), (b, .inl (.double, [(.double (118622047889322841 : UInt64)), (.double w1), (.double w2), (.double w3)])), (d, .inl (.int, [(.int x0), (.int x1), (.int x2), (.int x3)]))]) (pc' := 69) K d3_68 rfl rfl (by decide) (Nat.lt_of_sub_eq_succ rfl) rfl rfl ?_
          exact oW.retV K rfl d3_69 (by decide) (by decide) ⟨rfl, (118622047889322841 : UInt64), w1, w2, w3, (1000), (W1), (W2), (W3), x0, x1, x2, x3, (0 : Int32), rfl, oSV.tiny, hw1, hw2, hw3, oFE_b rfl fv45 (fun z => c12 z.1) (Or.inl ⟨c57, rfl⟩) hb0, Or.inr ⟨by decide, rfl⟩, Or.inr ⟨by decide, rfl⟩, Or.inr ⟨by decide, rfl⟩, Or.inr ⟨oNoW0 rfl c12, rfl, rfl, rfl, rfl⟩⟩
      · rw [oSV_eq hw0 (oSV.of (oDK 0 (by decide +kernel) (by decide)) (by first | omega | (have oTs' := oTs; omega) | (simp only [Int32.reduceToInt, Int64.reduceToInt]; omega))) ev11] at c12
        refine oW.dloadN (pc' := 16) K d3_15 rfl rfl ?_
        refine oW.dconst0 (pc' := 17) K d3_16 rfl ?_
        obtain ⟨v17, ev17⟩ : ∃ z : Int32, z = cmpValue (FP.dcmp v (0 : UInt64)) .l := ⟨_, rfl⟩
        refine oW.dcmp (pc' := 18) K d3_17 ev17 rfl ?_
        refine oW.if_ne (pc' := 22) (pc3 := 21) K d3_18 (by decide) (by decide) rfl (fun c18 => ?_) (fun c18 => ?_)
        · rw [oSV_eq (oSV.of hv (by omega)) (oSV.of (oDK 0 (by decide +kernel) (by decide)) (by first | omega | (have oTs' := oTs; omega) | (simp only [Int32.reduceToInt, Int64.reduceToInt]; omega))) ev17] at c18
          refine oW.aloadN (pc' := 23) K d3_22 rfl rfl rfl ?_
          refine oW.getf (i := 0) (q := 1) (pc' := 26) K (hw _ (List.mem_of_getElem? (i := 13) rfl)) d3_23 rfl rfl rfl ?_
          refine oW.aloadN (pc' := 27) K d3_26 rfl rfl rfl ?_
          refine oW.getf (i := 0) (q := 2) (pc' := 30) K (hw _ (List.mem_of_getElem? (i := 20) rfl)) d3_27 rfl rfl rfl ?_
          refine oW.iloadN (pc' := 31) K d3_30 rfl rfl ?_
          refine oW.iastore (i := 2) (k := 0) (ds' := [(a, .inr ("com/example/lotwise/lotwise/search/SparseVector", [("com/example/lotwise/lotwise/search/SparseVector", "values", "[D", (.ref b)), ("com/example/lotwise/lotwise/search/SparseVector", "index", "[I", (.ref d)), ("com/example/lotwise/lotwise/search/SparseVector", "count", "I", (.int (0 : Int32)))])), (b, .inl (.double, [(.double w0), (.double w1), (.double w2), (.double w3)])), (d, .inl (.int, [(.int (0 : Int32)), (.int x1), (.int x2), (.int x3)]))]) (pc' := 32) K d3_31 rfl rfl (by decide) (Nat.lt_of_sub_eq_succ rfl) rfl rfl ?_
          refine oW.aloadN (pc' := 33) K d3_32 rfl rfl rfl ?_
          refine oW.dup (pc' := 34) K d3_33 rfl rfl ?_
          refine oW.getf (i := 0) (q := 2) (pc' := 37) K (hw _ (List.mem_of_getElem? (i := 20) rfl)) d3_34 rfl rfl rfl ?_
          refine oW.iconst (v := (1 : Int32)) (pc' := 38) K d3_37 (by decide) rfl ?_
          refine oW.iadd (v := (1 : Int32)) (pc' := 39) K d3_38 (by decide) rfl ?_
          refine oW.putf (i := 0) (q := 2) (ty := .int) (ds' := [(a, .inr ("com/example/lotwise/lotwise/search/SparseVector", [("com/example/lotwise/lotwise/search/SparseVector", "values", "[D", (.ref b)), ("com/example/lotwise/lotwise/search/SparseVector", "index", "[I", (.ref d)), ("com/example/lotwise/lotwise/search/SparseVector", "count", "I", (.int (1 : Int32)))])), (b, .inl (.double, [(.double w0), (.double w1), (.double w2), (.double w3)])), (d, .inl (.int, [(.int (0 : Int32)), (.int x1), (.int x2), (.int x3)]))]) (pc' := 42) K (hw _ (List.mem_of_getElem? (i := 20) rfl)) (Or.inl (hw _ (List.mem_of_getElem? (i := 21) rfl))) (hw _ (List.mem_of_getElem? (i := 1) rfl)) (oAp_0 hw) d3_39 rfl rfl (by decide) rfl rfl rfl rfl ?_
          refine oW.dload (pc' := 44) K d3_42 rfl rfl ?_
          refine oW.dloadN (pc' := 45) K d3_44 rfl rfl ?_
          obtain ⟨v45, ev45⟩ : ∃ z : UInt64, z = FP.dadd w0 v := ⟨_, rfl⟩
          obtain ⟨Sv45, sv45, fv45⟩ := oSV_add hw0 hv hz hD hb0 ev45
          refine oW.dadd (pc' := 46) K d3_45 ev45 (oSV.nn sv45) rfl ?_
          refine oW.dstore (Ls' := #[.val (.ref a), .val (.int (0 : Int32)), .val (.double v), .second, .val (.double w0), .second, .val (.double v45), .second]) (pc' := 48) K d3_46 rfl rfl ?_
          refine oW.aloadN (pc' := 49) K d3_48 rfl rfl rfl ?_
          refine oW.getf (i := 0) (q := 0) (pc' := 52) K (hw _ (List.mem_of_getElem? (i := 10) rfl)) d3_49 rfl rfl rfl ?_
          refine oW.iloadN (pc' := 53) K d3_52 rfl rfl ?_
          refine oW.dload (pc' := 55) K d3_53 rfl rfl ?_
          refine oW.dconst0 (pc' := 56) K d3_55 rfl ?_
          obtain ⟨v56, ev56⟩ : ∃ z : Int32, z = cmpValue (FP.dcmp v45 (0 : UInt64)) .l := ⟨_, rfl⟩
          refine oW.dcmp (pc' := 57) K d3_56 ev56 rfl ?_
          refine oW.if_ne (pc' := 66) (pc3 := 60) K d3_57 (by decide) (by decide) rfl (fun c57 => ?_) (fun c57 => ?_)
          · rw [oSV_eq sv45 (oSV.of (oDK 0 (by decide +kernel) (by decide)) (by first | omega | (have oTs' := oTs; omega) | (simp only [Int32.reduceToInt, Int64.reduceToInt]; omega))) ev56] at c57
            refine oW.dload (pc' := 68) K d3_66 rfl rfl ?_
            refine oW.dastore (i := 1) (k := 0) (ds' := [(a, .inr ("com/example/lotwise/lotwise/search/SparseVector", [("com/example/lotwise/lotwise/search/SparseVector", "values", "[D", (.ref b)), ("com/example/lotwise/lotwise/search/SparseVector", "index", "[I", (.ref d)), ("com/example/lotwise/lotwise/search/SparseVector", "count", "I", (.int (1 : Int32)))])), (b, .inl (.double, [(.double v45), (.double w1), (.double w2), (.double w3)])), (d, .inl (.int, [(.int (0 : Int32)), (.int x1), (.int x2), (.int x3)]))]) (pc' := 69) K d3_68 rfl rfl (by decide) (Nat.lt_of_sub_eq_succ rfl) rfl rfl ?_
            exact oW.retV K rfl d3_69 (by decide) (by decide) ⟨rfl, v45, w1, w2, w3, (Sv45), (W1), (W2), (W3), (0 : Int32), x1, x2, x3, (1 : Int32), rfl, sv45, hw1, hw2, hw3, oFE_b rfl fv45 (fun z => c18 z.2) (Or.inr ⟨c57, rfl⟩) hb0, Or.inr ⟨by decide, rfl⟩, Or.inr ⟨by decide, rfl⟩, Or.inr ⟨by decide, rfl⟩, Or.inl ⟨⟨c18, (Or.inl ⟨rfl, c12⟩)⟩, by decide, (Or.inl ⟨by decide, rfl, rfl, rfl⟩)⟩⟩
          · rw [oSV_eq sv45 (oSV.of (oDK 0 (by decide +kernel) (by decide)) (by first | omega | (have oTs' := oTs; omega) | (simp only [Int32.reduceToInt, Int64.reduceToInt]; omega))) ev56] at c57
            refine oW.ldc2D (pc' := 63) K (hw _ (List.mem_of_getElem? (i := 29) rfl)) d3_60 rfl ?_
            refine oW.goto (pc' := 68) K d3_63 (by decide) (by decide) ?_
            refine oW.dastore (i := 1) (k := 0) (ds' := [(a, .inr ("com/example/lotwise/lotwise/search/SparseVector", [("com/example/lotwise/lotwise/search/SparseVector", "values", "[D", (.ref b)), ("com/example/lotwise/lotwise/search/SparseVector", "index", "[I", (.ref d)), ("com/example/lotwise/lotwise/search/SparseVector", "count", "I", (.int (1 : Int32)))])), (b, .inl (.double, [(.double (118622047889322841 : UInt64)), (.double w1), (.double w2), (.double w3)])), (d, .inl (.int, [(.int (0 : Int32)), (.int x1), (.int x2), (.int x3)]))]) (pc' := 69) K d3_68 rfl rfl (by decide) (Nat.lt_of_sub_eq_succ rfl) rfl rfl ?_
            exact oW.retV K rfl d3_69 (by decide) (by decide) ⟨rfl, (118622047889322841 : UInt64), w1, w2, w3, (1000), (W1), (W2), (W3), (0 : Int32), x1, x2, x3, (1 : Int32), rfl, oSV.tiny, hw1, hw2, hw3, oFE_b rfl fv45 (fun z => c18 z.2) (Or.inl ⟨c57, rfl⟩) hb0, Or.inr ⟨by decide, rfl⟩, Or.inr ⟨by decide, rfl⟩, Or.inr ⟨by decide, rfl⟩, Or.inl ⟨⟨c18, (Or.inl ⟨rfl, c12⟩)⟩, by decide, (Or.inl ⟨by decide, rfl, rfl, rfl⟩)⟩⟩
        · rw [oSV_eq (oSV.of hv (by omega)) (oSV.of (oDK 0 (by decide +kernel) (by decide)) (by first | omega | (have oTs' := oTs; omega) | (simp only [Int32.reduceToInt, Int64.reduceToInt]; omega))) ev17] at c18
          exact oW.retV K rfl d3_21 (by decide) (by decide) ⟨rfl, w0, w1, w2, w3, (W0), (W1), (W2), (W3), x0, x1, x2, x3, (0 : Int32), rfl, hw0, hw1, hw2, hw3, oFE_a rfl c12 c18, Or.inr ⟨by decide, rfl⟩, Or.inr ⟨by decide, rfl⟩, Or.inr ⟨by decide, rfl⟩, Or.inr ⟨oNoD c18, rfl, rfl, rfl, rfl⟩⟩
    · subst hnn
      refine oW.aloadN (pc' := 1) K d3_0 rfl rfl rfl ?_
      refine oW.getf (i := 0) (q := 0) (pc' := 4) K (hw _ (List.mem_of_getElem? (i := 10) rfl)) d3_1 rfl rfl rfl ?_
      refine oW.iloadN (pc' := 5) K d3_4 rfl rfl ?_
      refine oW.daload (i := 1) (k := 0) (pc' := 6) K d3_5 rfl rfl (by decide) rfl rfl ?_
      refine oW.dstore (Ls' := #[.val (.ref a), .val (.int (0 : Int32)), .val (.double v), .second, .val (.double w0), .second, .unset, .unset]) (pc' := 8) K d3_6 rfl rfl ?_
      refine oW.dload (pc' := 10) K d3_8 rfl rfl ?_
      refine oW.dconst0 (pc' := 11) K d3_10 rfl ?_
      obtain ⟨v11, ev11⟩ : ∃ z : Int32, z = cmpValue (FP.dcmp w0 (0 : UInt64)) .l := ⟨_, rfl⟩
      refine oW.dcmp (pc' := 12) K d3_11 ev11 rfl ?_
      refine oW.if_ne (pc' := 42) (pc3 := 15) K d3_12 (by decide) (by decide) rfl (fun c12 => ?_) (fun c12 => ?_)
      · rw [oSV_eq hw0 (oSV.of (oDK 0 (by decide +kernel) (by decide)) (by first | omega | (have oTs' := oTs; omega) | (simp only [Int32.reduceToInt, Int64.reduceToInt]; omega))) ev11] at c12
        refine oW.dload (pc' := 44) K d3_42 rfl rfl ?_
        refine oW.dloadN (pc' := 45) K d3_44 rfl rfl ?_
        obtain ⟨v45, ev45⟩ : ∃ z : UInt64, z = FP.dadd w0 v := ⟨_, rfl⟩
        obtain ⟨Sv45, sv45, fv45⟩ := oSV_add hw0 hv hz hD hb0 ev45
        refine oW.dadd (pc' := 46) K d3_45 ev45 (oSV.nn sv45) rfl ?_
        refine oW.dstore (Ls' := #[.val (.ref a), .val (.int (0 : Int32)), .val (.double v), .second, .val (.double w0), .second, .val (.double v45), .second]) (pc' := 48) K d3_46 rfl rfl ?_
        refine oW.aloadN (pc' := 49) K d3_48 rfl rfl rfl ?_
        refine oW.getf (i := 0) (q := 0) (pc' := 52) K (hw _ (List.mem_of_getElem? (i := 10) rfl)) d3_49 rfl rfl rfl ?_
        refine oW.iloadN (pc' := 53) K d3_52 rfl rfl ?_
        refine oW.dload (pc' := 55) K d3_53 rfl rfl ?_
        refine oW.dconst0 (pc' := 56) K d3_55 rfl ?_
        obtain ⟨v56, ev56⟩ : ∃ z : Int32, z = cmpValue (FP.dcmp v45 (0 : UInt64)) .l := ⟨_, rfl⟩
        refine oW.dcmp (pc' := 57) K d3_56 ev56 rfl ?_
        refine oW.if_ne (pc' := 66) (pc3 := 60) K d3_57 (by decide) (by decide) rfl (fun c57 => ?_) (fun c57 => ?_)
        · rw [oSV_eq sv45 (oSV.of (oDK 0 (by decide +kernel) (by decide)) (by first | omega | (have oTs' := oTs; omega) | (simp only [Int32.reduceToInt, Int64.reduceToInt]; omega))) ev56] at c57
          refine oW.dload (pc' := 68) K d3_66 rfl rfl ?_
          refine oW.dastore (i := 1) (k := 0) (ds' := [(a, .inr ("com/example/lotwise/lotwise/search/SparseVector", [("com/example/lotwise/lotwise/search/SparseVector", "values", "[D", (.ref b)), ("com/example/lotwise/lotwise/search/SparseVector", "index", "[I", (.ref d)), ("com/example/lotwise/lotwise/search/SparseVector", "count", "I", (.int (1 : Int32)))])), (b, .inl (.double, [(.double v45), (.double w1), (.double w2), (.double w3)])), (d, .inl (.int, [(.int x0), (.int x1), (.int x2), (.int x3)]))]) (pc' := 69) K d3_68 rfl rfl (by decide) (Nat.lt_of_sub_eq_succ rfl) rfl rfl ?_
          exact oW.retV K rfl d3_69 (by decide) (by decide) ⟨rfl, v45, w1, w2, w3, (Sv45), (W1), (W2), (W3), x0, x1, x2, x3, (1 : Int32), rfl, sv45, hw1, hw2, hw3, oFE_b rfl fv45 (fun z => c12 z.1) (Or.inr ⟨c57, rfl⟩) hb0, Or.inr ⟨by decide, rfl⟩, Or.inr ⟨by decide, rfl⟩, Or.inr ⟨by decide, rfl⟩, Or.inr ⟨oNoW0 rfl c12, rfl, rfl, rfl, rfl⟩⟩
        · rw [oSV_eq sv45 (oSV.of (oDK 0 (by decide +kernel) (by decide)) (by first | omega | (have oTs' := oTs; omega) | (simp only [Int32.reduceToInt, Int64.reduceToInt]; omega))) ev56] at c57
          refine oW.ldc2D (pc' := 63) K (hw _ (List.mem_of_getElem? (i := 29) rfl)) d3_60 rfl ?_
          refine oW.goto (pc' := 68) K d3_63 (by decide) (by decide) ?_
          refine oW.dastore (i := 1) (k := 0) (ds' := [(a, .inr ("com/example/lotwise/lotwise/search/SparseVector", [("com/example/lotwise/lotwise/search/SparseVector", "values", "[D", (.ref b)), ("com/example/lotwise/lotwise/search/SparseVector", "index", "[I", (.ref d)), ("com/example/lotwise/lotwise/search/SparseVector", "count", "I", (.int (1 : Int32)))])), (b, .inl (.double, [(.double (118622047889322841 : UInt64)), (.double w1), (.double w2), (.double w3)])), (d, .inl (.int, [(.int x0), (.int x1), (.int x2), (.int x3)]))]) (pc' := 69) K d3_68 rfl rfl (by decide) (Nat.lt_of_sub_eq_succ rfl) rfl rfl ?_
          exact oW.retV K rfl d3_69 (by decide) (by decide) ⟨rfl, (118622047889322841 : UInt64), w1, w2, w3, (1000), (W1), (W2), (W3), x0, x1, x2, x3, (1 : Int32), rfl, oSV.tiny, hw1, hw2, hw3, oFE_b rfl fv45 (fun z => c12 z.1) (Or.inl ⟨c57, rfl⟩) hb0, Or.inr ⟨by decide, rfl⟩, Or.inr ⟨by decide, rfl⟩, Or.inr ⟨by decide, rfl⟩, Or.inr ⟨oNoW0 rfl c12, rfl, rfl, rfl, rfl⟩⟩
      · rw [oSV_eq hw0 (oSV.of (oDK 0 (by decide +kernel) (by decide)) (by first | omega | (have oTs' := oTs; omega) | (simp only [Int32.reduceToInt, Int64.reduceToInt]; omega))) ev11] at c12
        refine oW.dloadN (pc' := 16) K d3_15 rfl rfl ?_
        refine oW.dconst0 (pc' := 17) K d3_16 rfl ?_
        obtain ⟨v17, ev17⟩ : ∃ z : Int32, z = cmpValue (FP.dcmp v (0 : UInt64)) .l := ⟨_, rfl⟩
        refine oW.dcmp (pc' := 18) K d3_17 ev17 rfl ?_
        refine oW.if_ne (pc' := 22) (pc3 := 21) K d3_18 (by decide) (by decide) rfl (fun c18 => ?_) (fun c18 => ?_)
        · rw [oSV_eq (oSV.of hv (by omega)) (oSV.of (oDK 0 (by decide +kernel) (by decide)) (by first | omega | (have oTs' := oTs; omega) | (simp only [Int32.reduceToInt, Int64.reduceToInt]; omega))) ev17] at c18
          refine oW.aloadN (pc' := 23) K d3_22 rfl rfl rfl ?_
          refine oW.getf (i := 0) (q := 1) (pc' := 26) K (hw _ (List.mem_of_getElem? (i := 13) rfl)) d3_23 rfl rfl rfl ?_
          refine oW.aloadN (pc' := 27) K d3_26 rfl rfl rfl ?_
          refine oW.getf (i := 0) (q := 2) (pc' := 30) K (hw _ (List.mem_of_getElem? (i := 20) rfl)) d3_27 rfl rfl rfl ?_
          refine oW.iloadN (pc' := 31) K d3_30 rfl rfl ?_
          refine oW.iastore (i := 2) (k := 1) (ds' := [(a, .inr ("com/example/lotwise/lotwise/search/SparseVector", [("com/example/lotwise/lotwise/search/SparseVector", "values", "[D", (.ref b)), ("com/example/lotwise/lotwise/search/SparseVector", "index", "[I", (.ref d)), ("com/example/lotwise/lotwise/search/SparseVector", "count", "I", (.int (1 : Int32)))])), (b, .inl (.double, [(.double w0), (.double w1), (.double w2), (.double w3)])), (d, .inl (.int, [(.int x0), (.int (0 : Int32)), (.int x2), (.int x3)]))]) (pc' := 32) K d3_31 rfl rfl (by decide) (Nat.lt_of_sub_eq_succ rfl) rfl rfl ?_
          refine oW.aloadN (pc' := 33) K d3_32 rfl rfl rfl ?_
          refine oW.dup (pc' := 34) K d3_33 rfl rfl ?_
          refine oW.getf (i := 0) (q := 2) (pc' := 37) K (hw _ (List.mem_of_getElem? (i := 20) rfl)) d3_34 rfl rfl rfl ?_
          refine oW.iconst (v := (1 : Int32)) (pc' := 38) K d3_37 (by decide) rfl ?_
          refine oW.iadd (v := (2 : Int32)) (pc' := 39) K d3_38 (by decide) rfl ?_
          refine oW.putf (i := 0) (q := 2) (ty := .int) (ds' := [(a, .inr ("com/example/lotwise/lotwise/search/SparseVector", [("com/example/lotwise/lotwise/search/SparseVector", "values", "[D", (.ref b)), ("com/example/lotwise/lotwise/search/SparseVector", "index", "[I", (.ref d)), ("com/example/lotwise/lotwise/search/SparseVector", "count", "I", (.int (2 : Int32)))])), (b, .inl (.double, [(.double w0), (.double w1), (.double w2), (.double w3)])), (d, .inl (.int, [(.int x0), (.int (0 : Int32)), (.int x2), (.int x3)]))]) (pc' := 42) K (hw _ (List.mem_of_getElem? (i := 20) rfl)) (Or.inl (hw _ (List.mem_of_getElem? (i := 21) rfl))) (hw _ (List.mem_of_getElem? (i := 1) rfl)) (oAp_0 hw) d3_39 rfl rfl (by decide) rfl rfl rfl rfl ?_
          refine oW.dload (pc' := 44) K d3_42 rfl rfl ?_
          refine oW.dloadN (pc' := 45) K d3_44 rfl rfl ?_
          obtain ⟨v45, ev45⟩ : ∃ z : UInt64, z = FP.dadd w0 v := ⟨_, rfl⟩
          obtain ⟨Sv45, sv45, fv45⟩ := oSV_add hw0 hv hz hD hb0 ev45
          refine oW.dadd (pc' := 46) K d3_45 ev45 (oSV.nn sv45) rfl ?_
          refine oW.dstore (Ls' := #[.val (.ref a), .val (.int (0 : Int32)), .val (.double v), .second, .val (.double w0), .second, .val (.double v45), .second]) (pc' := 48) K d3_46 rfl rfl ?_
          refine oW.aloadN (pc' := 49) K d3_48 rfl rfl rfl ?_
          refine oW.getf (i := 0) (q := 0) (pc' := 52) K (hw _ (List.mem_of_getElem? (i := 10) rfl)) d3_49 rfl rfl rfl ?_
          refine oW.iloadN (pc' := 53) K d3_52 rfl rfl ?_
          refine oW.dload (pc' := 55) K d3_53 rfl rfl ?_
          refine oW.dconst0 (pc' := 56) K d3_55 rfl ?_
          obtain ⟨v56, ev56⟩ : ∃ z : Int32, z = cmpValue (FP.dcmp v45 (0 : UInt64)) .l := ⟨_, rfl⟩
          refine oW.dcmp (pc' := 57) K d3_56 ev56 rfl ?_
          refine oW.if_ne (pc' := 66) (pc3 := 60) K d3_57 (by decide) (by decide) rfl (fun c57 => ?_) (fun c57 => ?_)
          · rw [oSV_eq sv45 (oSV.of (oDK 0 (by decide +kernel) (by decide)) (by first | omega | (have oTs' := oTs; omega) | (simp only [Int32.reduceToInt, Int64.reduceToInt]; omega))) ev56] at c57
            refine oW.dload (pc' := 68) K d3_66 rfl rfl ?_
            refine oW.dastore (i := 1) (k := 0) (ds' := [(a, .inr ("com/example/lotwise/lotwise/search/SparseVector", [("com/example/lotwise/lotwise/search/SparseVector", "values", "[D", (.ref b)), ("com/example/lotwise/lotwise/search/SparseVector", "index", "[I", (.ref d)), ("com/example/lotwise/lotwise/search/SparseVector", "count", "I", (.int (2 : Int32)))])), (b, .inl (.double, [(.double v45), (.double w1), (.double w2), (.double w3)])), (d, .inl (.int, [(.int x0), (.int (0 : Int32)), (.int x2), (.int x3)]))]) (pc' := 69) K d3_68 rfl rfl (by decide) (Nat.lt_of_sub_eq_succ rfl) rfl rfl ?_
            exact oW.retV K rfl d3_69 (by decide) (by decide) ⟨rfl, v45, w1, w2, w3, (Sv45), (W1), (W2), (W3), x0, (0 : Int32), x2, x3, (2 : Int32), rfl, sv45, hw1, hw2, hw3, oFE_b rfl fv45 (fun z => c18 z.2) (Or.inr ⟨c57, rfl⟩) hb0, Or.inr ⟨by decide, rfl⟩, Or.inr ⟨by decide, rfl⟩, Or.inr ⟨by decide, rfl⟩, Or.inl ⟨⟨c18, (Or.inl ⟨rfl, c12⟩)⟩, by decide, (Or.inr (Or.inl ⟨by decide, rfl, rfl, rfl⟩))⟩⟩
          · rw [oSV_eq sv45 (oSV.of (oDK 0 (by decide +kernel) (by decide)) (by first | omega | (have oTs' := oTs; omega) | (simp only [Int32.reduceToInt, Int64.reduceToInt]; omega))) ev56] at c57
            refine oW.ldc2D (pc' := 63) K (hw _ (List.mem_of_getElem? (i := 29) rfl)) d3_60 rfl ?_
            refine oW.goto (pc' := 68) K d3_63 (by decide) (by decide) ?_
            refine oW.dastore (i := 1) (k := 0) (ds' := [(a, .inr ("com/example/lotwise/lotwise/search/SparseVector", [("com/example/lotwise/lotwise/search/SparseVector", "values", "[D", (.ref b)), ("com/example/lotwise/lotwise/search/SparseVector", "index", "[I", (.ref d)), ("com/example/lotwise/lotwise/search/SparseVector", "count", "I", (.int (2 : Int32)))])), (b, .inl (.double, [(.double (118622047889322841 : UInt64)), (.double w1), (.double w2), (.double w3)])), (d, .inl (.int, [(.int x0), (.int (0 : Int32)), (.int x2), (.int x3)]))]) (pc' := 69) K d3_68 rfl rfl (by decide) (Nat.lt_of_sub_eq_succ rfl) rfl rfl ?_
            exact oW.retV K rfl d3_69 (by decide) (by decide) ⟨rfl, (118622047889322841 : UInt64), w1, w2, w3, (1000), (W1), (W2), (W3), x0, (0 : Int32), x2, x3, (2 : Int32), rfl, oSV.tiny, hw1, hw2, hw3, oFE_b rfl fv45 (fun z => c18 z.2) (Or.inl ⟨c57, rfl⟩) hb0, Or.inr ⟨by decide, rfl⟩, Or.inr ⟨by decide, rfl⟩, Or.inr ⟨by decide, rfl⟩, Or.inl ⟨⟨c18, (Or.inl ⟨rfl, c12⟩)⟩, by decide, (Or.inr (Or.inl ⟨by decide, rfl, rfl, rfl⟩))⟩⟩
        · rw [oSV_eq (oSV.of hv (by omega)) (oSV.of (oDK 0 (by decide +kernel) (by decide)) (by first | omega | (have oTs' := oTs; omega) | (simp only [Int32.reduceToInt, Int64.reduceToInt]; omega))) ev17] at c18
          exact oW.retV K rfl d3_21 (by decide) (by decide) ⟨rfl, w0, w1, w2, w3, (W0), (W1), (W2), (W3), x0, x1, x2, x3, (1 : Int32), rfl, hw0, hw1, hw2, hw3, oFE_a rfl c12 c18, Or.inr ⟨by decide, rfl⟩, Or.inr ⟨by decide, rfl⟩, Or.inr ⟨by decide, rfl⟩, Or.inr ⟨oNoD c18, rfl, rfl, rfl, rfl⟩⟩
    · subst hnn
      refine oW.aloadN (pc' := 1) K d3_0 rfl rfl rfl ?_
      refine oW.getf (i := 0) (q := 0) (pc' := 4) K (hw _ (List.mem_of_getElem? (i := 10) rfl)) d3_1 rfl rfl rfl ?_
      refine oW.iloadN (pc' := 5) K d3_4 rfl rfl ?_
      refine oW.daload (i := 1) (k := 0) (pc' := 6) K d3_5 rfl rfl (by decide) rfl rfl ?_
      refine oW.dstore (Ls' := #[.val (.ref a), .val (.int (0 : Int32)), .val (.double v), .second, .val (.double w0), .second, .unset, .unset]) (pc' := 8) K d3_6 rfl rfl ?_
      refine oW.dload (pc' := 10) K d3_8 rfl rfl ?_
      refine oW.dconst0 (pc' := 11) K d3_10 rfl ?_
      obtain ⟨v11, ev11⟩ : ∃ z : Int32, z = cmpValue (FP.dcmp w0 (0 : UInt64)) .l := ⟨_, rfl⟩
      refine oW.dcmp (pc' := 12) K d3_11 ev11 rfl ?_
      refine oW.if_ne (pc' := 42) (pc3 := 15) K d3_12 (by decide) (by decide) rfl (fun c12 => ?_) (fun c12 => ?_)
      · rw [oSV_eq hw0 (oSV.of (oDK 0 (by decide +kernel) (by decide)) (by first | omega | (have oTs' := oTs; omega) | (simp only [Int32.reduceToInt, Int64.reduceToInt]; omega))) ev11] at c12
        refine oW.dload (pc' := 44) K d3_42 rfl rfl ?_
        refine oW.dloadN (pc' := 45) K d3_44 rfl rfl ?_
        obtain ⟨v45, ev45⟩ : ∃ z : UInt64, z = FP.dadd w0 v := ⟨_, rfl⟩
        obtain ⟨Sv45, sv45, fv45⟩ := oSV_add hw0 hv hz hD hb0 ev45
        refine oW.dadd (pc' := 46) K d3_45 ev45 (oSV.nn sv45) rfl ?_
        refine oW.dstore (Ls' := #[.val (.ref a), .val (.int (0 : Int32)), .val (.double v), .second, .val (.double w0), .second, .val (.double v45), .second]) (pc' := 48) K d3_46 rfl rfl ?_
        refine oW.aloadN (pc' := 49) K d3_48 rfl rfl rfl ?_
        refine oW.getf (i := 0) (q := 0) (pc' := 52) K (hw _ (List.mem_of_getElem? (i := 10) rfl)) d3_49 rfl rfl rfl ?_
        refine oW.iloadN (pc' := 53) K d3_52 rfl rfl ?_
        refine oW.dload (pc' := 55) K d3_53 rfl rfl ?_
        refine oW.dconst0 (pc' := 56) K d3_55 rfl ?_
        obtain ⟨v56, ev56⟩ : ∃ z : Int32, z = cmpValue (FP.dcmp v45 (0 : UInt64)) .l := ⟨_, rfl⟩
        refine oW.dcmp (pc' := 57) K d3_56 ev56 rfl ?_
        refine oW.if_ne (pc' := 66) (pc3 := 60) K d3_57 (by decide) (by decide) rfl (fun c57 => ?_) (fun c57 => ?_)
        · rw [oSV_eq sv45 (oSV.of (oDK 0 (by decide +kernel) (by decide)) (by first | omega | (have oTs' := oTs; omega) | (simp only [Int32.reduceToInt, Int64.reduceToInt]; omega))) ev56] at c57
          refine oW.dload (pc' := 68) K d3_66 rfl rfl ?_
          refine oW.dastore (i := 1) (k := 0) (ds' := [(a, .inr ("com/example/lotwise/lotwise/search/SparseVector", [("com/example/lotwise/lotwise/search/SparseVector", "values", "[D", (.ref b)), ("com/example/lotwise/lotwise/search/SparseVector", "index", "[I", (.ref d)), ("com/example/lotwise/lotwise/search/SparseVector", "count", "I", (.int (2 : Int32)))])), (b, .inl (.double, [(.double v45), (.double w1), (.double w2), (.double w3)])), (d, .inl (.int, [(.int x0), (.int x1), (.int x2), (.int x3)]))]) (pc' := 69) K d3_68 rfl rfl (by decide) (Nat.lt_of_sub_eq_succ rfl) rfl rfl ?_
          exact oW.retV K rfl d3_69 (by decide) (by decide) ⟨rfl, v45, w1, w2, w3, (Sv45), (W1), (W2), (W3), x0, x1, x2, x3, (2 : Int32), rfl, sv45, hw1, hw2, hw3, oFE_b rfl fv45 (fun z => c12 z.1) (Or.inr ⟨c57, rfl⟩) hb0, Or.inr ⟨by decide, rfl⟩, Or.inr ⟨by decide, rfl⟩, Or.inr ⟨by decide, rfl⟩, Or.inr ⟨oNoW0 rfl c12, rfl, rfl, rfl, rfl⟩⟩
        · rw [oSV_eq sv45 (oSV.of (oDK 0 (by decide +kernel) (by decide)) (by first | omega | (have oTs' := oTs; omega) | (simp only [Int32.reduceToInt, Int64.reduceToInt]; omega))) ev56] at c57
          refine oW.ldc2D (pc' := 63) K (hw _ (List.mem_of_getElem? (i := 29) rfl)) d3_60 rfl ?_
          refine oW.goto (pc' := 68) K d3_63 (by decide) (by decide) ?_
          refine oW.dastore (i := 1) (k := 0) (ds' := [(a, .inr ("com/example/lotwise/lotwise/search/SparseVector", [("com/example/lotwise/lotwise/search/SparseVector", "values", "[D", (.ref b)), ("com/example/lotwise/lotwise/search/SparseVector", "index", "[I", (.ref d)), ("com/example/lotwise/lotwise/search/SparseVector", "count", "I", (.int (2 : Int32)))])), (b, .inl (.double, [(.double (118622047889322841 : UInt64)), (.double w1), (.double w2), (.double w3)])), (d, .inl (.int, [(.int x0), (.int x1), (.int x2), (.int x3)]))]) (pc' := 69) K d3_68 rfl rfl (by decide) (Nat.lt_of_sub_eq_succ rfl) rfl rfl ?_
          exact oW.retV K rfl d3_69 (by decide) (by decide) ⟨rfl, (118622047889322841 : UInt64), w1, w2, w3, (1000), (W1), (W2), (W3), x0, x1, x2, x3, (2 : Int32), rfl, oSV.tiny, hw1, hw2, hw3, oFE_b rfl fv45 (fun z => c12 z.1) (Or.inl ⟨c57, rfl⟩) hb0, Or.inr ⟨by decide, rfl⟩, Or.inr ⟨by decide, rfl⟩, Or.inr ⟨by decide, rfl⟩, Or.inr ⟨oNoW0 rfl c12, rfl, rfl, rfl, rfl⟩⟩
      · rw [oSV_eq hw0 (oSV.of (oDK 0 (by decide +kernel) (by decide)) (by first | omega | (have oTs' := oTs; omega) | (simp only [Int32.reduceToInt, Int64.reduceToInt]; omega))) ev11] at c12
        refine oW.dloadN (pc' := 16) K d3_15 rfl rfl ?_
        refine oW.dconst0 (pc' := 17) K d3_16 rfl ?_
        obtain ⟨v17, ev17⟩ : ∃ z : Int32, z = cmpValue (FP.dcmp v (0 : UInt64)) .l := ⟨_, rfl⟩
        refine oW.dcmp (pc' := 18) K d3_17 ev17 rfl ?_
        refine oW.if_ne (pc' := 22) (pc3 := 21) K d3_18 (by decide) (by decide) rfl (fun c18 => ?_) (fun c18 => ?_)
        · rw [oSV_eq (oSV.of hv (by omega)) (oSV.of (oDK 0 (by decide +kernel) (by decide)) (by first | omega | (have oTs' := oTs; omega) | (simp only [Int32.reduceToInt, Int64.reduceToInt]; omega))) ev17] at c18
          refine oW.aloadN (pc' := 23) K d3_22 rfl rfl rfl ?_
          refine oW.getf (i := 0) (q := 1) (pc' := 26) K (hw _ (List.mem_of_getElem? (i := 13) rfl)) d3_23 rfl rfl rfl ?_
          refine oW.aloadN (pc' := 27) K d3_26 rfl rfl rfl ?_
          refine oW.getf (i := 0) (q := 2) (pc' := 30) K (hw _ (List.mem_of_getElem? (i := 20) rfl)) d3_27 rfl rfl rfl ?_
          refine oW.iloadN (pc' := 31) K d3_30 rfl rfl ?_
          refine oW.iastore (i := 2) (k := 2) (ds' := [(a, .inr ("com/example/lotwise/lotwise/search/SparseVector", [("com/example/lotwise/lotwise/search/SparseVector", "values", "[D", (.ref b)), ("com/example/lotwise/lotwise/search/SparseVector", "index", "[I", (.ref d)), ("com/example/lotwise/lotwise/search/SparseVector", "count", "I", (.int (2 : Int32)))])), (b, .inl (.double, [(.double w0), (.double w1), (.double w2), (.double w3)])), (d, .inl (.int, [(.int x0), (.int x1), (.int (0 : Int32)), (.int x3)]))]) (pc' := 32) K d3_31 rfl rfl (by decide) (Nat.lt_of_sub_eq_succ rfl) rfl rfl ?_
          refine oW.aloadN (pc' := 33) K d3_32 rfl rfl rfl ?_
          refine oW.dup (pc' := 34) K d3_33 rfl rfl ?_
          refine oW.getf (i := 0) (q := 2) (pc' := 37) K (hw _ (List.mem_of_getElem? (i := 20) rfl)) d3_34 rfl rfl rfl ?_
          refine oW.iconst (v := (1 : Int32)) (pc' := 38) K d3_37 (by decide) rfl ?_
          refine oW.iadd (v := (3 : Int32)) (pc' := 39) K d3_38 (by decide) rfl ?_
          refine oW.putf (i := 0) (q := 2) (ty := .int) (ds' := [(a, .inr ("com/example/lotwise/lotwise/search/SparseVector", [("com/example/lotwise/lotwise/search/SparseVector", "values", "[D", (.ref b)), ("com/example/lotwise/lotwise/search/SparseVector", "index", "[I", (.ref d)), ("com/example/lotwise/lotwise/search/SparseVector", "count", "I", (.int (3 : Int32)))])), (b, .inl (.double, [(.double w0), (.double w1), (.double w2), (.double w3)])), (d, .inl (.int, [(.int x0), (.int x1), (.int (0 : Int32)), (.int x3)]))]) (pc' := 42) K (hw _ (List.mem_of_getElem? (i := 20) rfl)) (Or.inl (hw _ (List.mem_of_getElem? (i := 21) rfl))) (hw _ (List.mem_of_getElem? (i := 1) rfl)) (oAp_0 hw) d3_39 rfl rfl (by decide) rfl rfl rfl rfl ?_
          refine oW.dload (pc' := 44) K d3_42 rfl rfl ?_
          refine oW.dloadN (pc' := 45) K d3_44 rfl rfl ?_
          obtain ⟨v45, ev45⟩ : ∃ z : UInt64, z = FP.dadd w0 v := ⟨_, rfl⟩
          obtain ⟨Sv45, sv45, fv45⟩ := oSV_add hw0 hv hz hD hb0 ev45
          refine oW.dadd (pc' := 46) K d3_45 ev45 (oSV.nn sv45) rfl ?_
          refine oW.dstore (Ls' := #[.val (.ref a), .val (.int (0 : Int32)), .val (.double v), .second, .val (.double w0), .second, .val (.double v45), .second]) (pc' := 48) K d3_46 rfl rfl ?_
          refine oW.aloadN (pc' := 49) K d3_48 rfl rfl rfl ?_
          refine oW.getf (i := 0) (q := 0) (pc' := 52) K (hw _ (List.mem_of_getElem? (i := 10) rfl)) d3_49 rfl rfl rfl ?_
          refine oW.iloadN (pc' := 53) K d3_52 rfl rfl ?_
          refine oW.dload (pc' := 55) K d3_53 rfl rfl ?_
          refine oW.dconst0 (pc' := 56) K d3_55 rfl ?_
          obtain ⟨v56, ev56⟩ : ∃ z : Int32, z = cmpValue (FP.dcmp v45 (0 : UInt64)) .l := ⟨_, rfl⟩
          refine oW.dcmp (pc' := 57) K d3_56 ev56 rfl ?_
          refine oW.if_ne (pc' := 66) (pc3 := 60) K d3_57 (by decide) (by decide) rfl (fun c57 => ?_) (fun c57 => ?_)
          · rw [oSV_eq sv45 (oSV.of (oDK 0 (by decide +kernel) (by decide)) (by first | omega | (have oTs' := oTs; omega) | (simp only [Int32.reduceToInt, Int64.reduceToInt]; omega))) ev56] at c57
            refine oW.dload (pc' := 68) K d3_66 rfl rfl ?_
            refine oW.dastore (i := 1) (k := 0) (ds' := [(a, .inr ("com/example/lotwise/lotwise/search/SparseVector", [("com/example/lotwise/lotwise/search/SparseVector", "values", "[D", (.ref b)), ("com/example/lotwise/lotwise/search/SparseVector", "index", "[I", (.ref d)), ("com/example/lotwise/lotwise/search/SparseVector", "count", "I", (.int (3 : Int32)))])), (b, .inl (.double, [(.double v45), (.double w1), (.double w2), (.double w3)])), (d, .inl (.int, [(.int x0), (.int x1), (.int (0 : Int32)), (.int x3)]))]) (pc' := 69) K d3_68 rfl rfl (by decide) (Nat.lt_of_sub_eq_succ rfl) rfl rfl ?_
            exact oW.retV K rfl d3_69 (by decide) (by decide) ⟨rfl, v45, w1, w2, w3, (Sv45), (W1), (W2), (W3), x0, x1, (0 : Int32), x3, (3 : Int32), rfl, sv45, hw1, hw2, hw3, oFE_b rfl fv45 (fun z => c18 z.2) (Or.inr ⟨c57, rfl⟩) hb0, Or.inr ⟨by decide, rfl⟩, Or.inr ⟨by decide, rfl⟩, Or.inr ⟨by decide, rfl⟩, Or.inl ⟨⟨c18, (Or.inl ⟨rfl, c12⟩)⟩, by decide, (Or.inr (Or.inr (⟨by decide, rfl, rfl, rfl⟩)))⟩⟩
          · rw [oSV_eq sv45 (oSV.of (oDK 0 (by decide +kernel) (by decide)) (by first | omega | (have oTs' := oTs; omega) | (simp only [Int32.reduceToInt, Int64.reduceToInt]; omega))) ev56] at c57
            refine oW.ldc2D (pc' := 63) K (hw _ (List.mem_of_getElem? (i := 29) rfl)) d3_60 rfl ?_
            refine oW.goto (pc' := 68) K d3_63 (by decide) (by decide) ?_
            refine oW.dastore (i := 1) (k := 0) (ds' := [(a, .inr ("com/example/lotwise/lotwise/search/SparseVector", [("com/example/lotwise/lotwise/search/SparseVector", "values", "[D", (.ref b)), ("com/example/lotwise/lotwise/search/SparseVector", "index", "[I", (.ref d)), ("com/example/lotwise/lotwise/search/SparseVector", "count", "I", (.int (3 : Int32)))])), (b, .inl (.double, [(.double (118622047889322841 : UInt64)), (.double w1), (.double w2), (.double w3)])), (d, .inl (.int, [(.int x0), (.int x1), (.int (0 : Int32)), (.int x3)]))]) (pc' := 69) K d3_68 rfl rfl (by decide) (Nat.lt_of_sub_eq_succ rfl) rfl rfl ?_
            exact oW.retV K rfl d3_69 (by decide) (by decide) ⟨rfl, (118622047889322841 : UInt64), w1, w2, w3, (1000), (W1), (W2), (W3), x0, x1, (0 : Int32), x3, (3 : Int32), rfl, oSV.tiny, hw1, hw2, hw3, oFE_b rfl fv45 (fun z => c18 z.2) (Or.inl ⟨c57, rfl⟩) hb0, Or.inr ⟨by decide, rfl⟩, Or.inr ⟨by decide, rfl⟩, Or.inr ⟨by decide, rfl⟩, Or.inl ⟨⟨c18, (Or.inl ⟨rfl, c12⟩)⟩, by decide, (Or.inr (Or.inr (⟨by decide, rfl, rfl, rfl⟩)))⟩⟩
        · rw [oSV_eq (oSV.of hv (by omega)) (oSV.of (oDK 0 (by decide +kernel) (by decide)) (by first | omega | (have oTs' := oTs; omega) | (simp only [Int32.reduceToInt, Int64.reduceToInt]; omega))) ev17] at c18
          exact oW.retV K rfl d3_21 (by decide) (by decide) ⟨rfl, w0, w1, w2, w3, (W0), (W1), (W2), (W3), x0, x1, x2, x3, (2 : Int32), rfl, hw0, hw1, hw2, hw3, oFE_a rfl c12 c18, Or.inr ⟨by decide, rfl⟩, Or.inr ⟨by decide, rfl⟩, Or.inr ⟨by decide, rfl⟩, Or.inr ⟨oNoD c18, rfl, rfl, rfl, rfl⟩⟩
  · subst hpi
    rcases hn' with hnn | hnn | hnn
    · subst hnn
      refine oW.aloadN (pc' := 1) K d3_0 rfl rfl rfl ?_
      refine oW.getf (i := 0) (q := 0) (pc' := 4) K (hw _ (List.mem_of_getElem? (i := 10) rfl)) d3_1 rfl rfl rfl ?_
      refine oW.iloadN (pc' := 5) K d3_4 rfl rfl ?_
      refine oW.daload (i := 1) (k := 1) (pc' := 6) K d3_5 rfl rfl (by decide) rfl rfl ?_
      refine oW.dstore (Ls' := #[.val (.ref a), .val (.int (1 : Int32)), .val (.double v), .second, .val (.double w1), .second, .unset, .unset]) (pc' := 8) K d3_6 rfl rfl ?_
      refine oW.dload (pc' := 10) K d3_8 rfl rfl ?_
      refine oW.dconst0 (pc' := 11) K d3_10 rfl ?_
      obtain ⟨v11, ev11⟩ : ∃ z : Int32, z = cmpValue (FP.dcmp w1 (0 : UInt64)) .l := ⟨_, rfl⟩
      refine oW.dcmp (pc' := 12) K d3_11 ev11 rfl ?_
      refine oW.if_ne (pc' := 42) (pc3 := 15) K d3_12 (by decide) (by decide) rfl (fun c12 => ?_) (fun c12 => ?_)
      · rw [oSV_eq hw1 (oSV.of (oDK 0 (by decide +kernel) (by decide)) (by first | omega | (have oTs' := oTs; omega) | (simp only [Int32.reduceToInt, Int64.reduceToInt]; omega))) ev11] at c12
        refine oW.dload (pc' := 44) K d3_42 rfl rfl ?_
        refine oW.dloadN (pc' := 45) K d3_44 rfl rfl ?_
        obtain ⟨v45, ev45⟩ : ∃ z : UInt64, z = FP.dadd w1 v := ⟨_, rfl⟩
        obtain ⟨Sv45, sv45, fv45⟩ := oSV_add hw1 hv hz hD hb1 ev45
        refine oW.dadd (pc' := 46) K d3_45 ev45 (oSV.nn sv45) rfl ?_
        refine oW.dstore (Ls' := #[.val (.ref a), .val (.int (1 : Int32)), .val (.double v), .second, .val (.double w1), .second, .val (.double v45), .second]) (pc' := 48) K d3_46 rfl rfl ?_
        refine oW.aloadN (pc' := 49) K d3_48 rfl rfl rfl ?_
        refine oW.getf (i := 0) (q := 0) (pc' := 52) K (hw _ (List.mem_of_getElem? (i := 10) rfl)) d3_49 rfl rfl rfl ?_
        refine oW.iloadN (pc' := 53) K d3_52 rfl rfl ?_
        refine oW.dload (pc' := 55) K d3_53 rfl rfl ?_
        refine oW.dconst0 (pc' := 56) K d3_55 rfl ?_
        obtain ⟨v56, ev56⟩ : ∃ z : Int32, z = cmpValue (FP.dcmp v45 (0 : UInt64)) .l := ⟨_, rfl⟩
        refine oW.dcmp (pc' := 57) K d3_56 ev56 rfl ?_
        refine oW.if_ne (pc' := 66) (pc3 := 60) K d3_57 (by decide) (by decide) rfl (fun c57 => ?_) (fun c57 => ?_)
        · rw [oSV_eq sv45 (oSV.of (oDK 0 (by decide +kernel) (by decide)) (by first | omega | (have oTs' := oTs; omega) | (simp only [Int32.reduceToInt, Int64.reduceToInt]; omega))) ev56] at c57
          refine oW.dload (pc' := 68) K d3_66 rfl rfl ?_
          refine oW.dastore (i := 1) (k := 1) (ds' := [(a, .inr ("com/example/lotwise/lotwise/search/SparseVector", [("com/example/lotwise/lotwise/search/SparseVector", "values", "[D", (.ref b)), ("com/example/lotwise/lotwise/search/SparseVector", "index", "[I", (.ref d)), ("com/example/lotwise/lotwise/search/SparseVector", "count", "I", (.int (0 : Int32)))])), (b, .inl (.double, [(.double w0), (.double v45), (.double w2), (.double w3)])), (d, .inl (.int, [(.int x0), (.int x1), (.int x2), (.int x3)]))]) (pc' := 69) K d3_68 rfl rfl (by decide) (Nat.lt_of_sub_eq_succ rfl) rfl rfl ?_
          exact oW.retV K rfl d3_69 (by decide) (by decide) ⟨rfl, w0, v45, w2, w3, (W0), (Sv45), (W2), (W3), x0, x1, x2, x3, (0 : Int32), rfl, hw0, sv45, hw2, hw3, Or.inr ⟨by decide, rfl⟩, oFE_b rfl fv45 (fun z => c12 z.1) (Or.inr ⟨c57, rfl⟩) hb1, Or.inr ⟨by decide, rfl⟩, Or.inr ⟨by decide, rfl⟩, Or.inr ⟨oNoW1 rfl c12, rfl, rfl, rfl, rfl⟩⟩
        · rw [oSV_eq sv45 (oSV.of (oDK 0 (by decide +kernel) (by decide)) (by first | omega | (have oTs' := oTs; omega) | (simp only [Int32.reduceToInt, Int64.reduceToInt]; omega))) ev56] at c57
          refine oW.ldc2D (pc' := 63) K (hw _ (List.mem_of_getElem? (i := 29) rfl)) d3_60 rfl ?_
          refine oW.goto (pc' := 68) K d3_63 (by decide) (by decide) ?_
          refine oW.dastore (i := 1) (k := 1) (ds' := [(a, .inr ("com/example/lotwise/lotwise/search/SparseVector", [("com/example/lotwise/lotwise/search/SparseVector", "values", "[D", (.ref b)), ("com/example/lotwise/lotwise/search/SparseVector", "index", "[I", (.ref d)), ("com/example/lotwise/lotwise/search/SparseVector", "count", "I", (.int (0 : Int32)))])), (b, .inl (.double, [(.double w0), (.double (118622047889322841 : UInt64)), (.double w2), (.double w3)])), (d, .inl (.int, [(.int x0), (.int x1), (.int x2), (.int x3)]))]) (pc' := 69) K d3_68 rfl rfl (by decide) (Nat.lt_of_sub_eq_succ rfl) rfl rfl ?_
          exact oW.retV K rfl d3_69 (by decide) (by decide) ⟨rfl, w0, (118622047889322841 : UInt64), w2, w3, (W0), (1000), (W2), (W3), x0, x1, x2, x3, (0 : Int32), rfl, hw0, oSV.tiny, hw2, hw3, Or.inr ⟨by decide, rfl⟩, oFE_b rfl fv45 (fun z => c12 z.1) (Or.inl ⟨c57, rfl⟩) hb1, Or.inr ⟨by decide, rfl⟩, Or.inr ⟨by decide, rfl⟩, Or.inr ⟨oNoW1 rfl c12, rfl, rfl, rfl, rfl⟩⟩
      · rw [oSV_eq hw1 (oSV.of (oDK 0 (by decide +kernel) (by decide)) (by first | omega | (have oTs' := oTs; omega) | (simp only [Int32.reduceToInt, Int64.reduceToInt]; omega))) ev11] at c12
        refine oW.dloadN (pc' := 16) K d3_15 rfl rfl ?_
        refine oW.dconst0 (pc' := 17) K d3_16 rfl ?_
        obtain ⟨v17, ev17⟩ : ∃ z : Int32, z = cmpValue (FP.dcmp v (0 : UInt64)) .l := ⟨_, rfl⟩
        refine oW.dcmp (pc' := 18) K d3_17 ev17 rfl ?_
        refine oW.if_ne (pc' := 22) (pc3 := 21) K d3_18 (by decide) (by decide) rfl (fun c18 => ?_) (fun c18 => ?_)
        · rw [oSV_eq (oSV.of hv (by omega)) (oSV.of (oDK 0 (by decide +kernel) (by decide)) (by first | omega | (have oTs' := oTs; omega) | (simp only [Int32.reduceToInt, Int64.reduceToInt]; omega))) ev17] at c18
          refine oW.aloadN (pc' := 23) K d3_22 rfl rfl rfl ?_
          refine oW.getf (i := 0) (q := 1) (pc' := 26) K (hw _ (List.mem_of_getElem? (i := 13) rfl)) d3_23 rfl rfl rfl ?_
          refine oW.aloadN (pc' := 27) K d3_26 rfl rfl rfl ?_
          refine oW.getf (i := 0) (q := 2) (pc' := 30) K (hw _ (List.mem_of_getElem? (i := 20) rfl)) d3_27 rfl rfl rfl ?_
          refine oW.iloadN (pc' := 31) K d3_30 rfl rfl ?_
          refine oW.iastore (i := 2) (k := 0) (ds' := [(a, .inr ("com/example/lotwise/lotwise/search/SparseVector", [("com/example/lotwise/lotwise/search/SparseVector", "values", "[D", (.ref b)), ("com/example/lotwise/lotwise/search/SparseVector", "index", "[I", (.ref d)), ("com/example/lotwise/lotwise/search/SparseVector", "count", "I", (.int (0 : Int32)))])), (b, .inl (.double, [(.double w0), (.double w1), (.double w2), (.double w3)])), (d, .inl (.int, [(.int (1 : Int32)), (.int x1), (.int x2), (.int x3)]))]) (pc' := 32) K d3_31 rfl rfl (by decide) (Nat.lt_of_sub_eq_succ rfl) rfl rfl ?_
          refine oW.aloadN (pc' := 33) K d3_32 rfl rfl rfl ?_
          refine oW.dup (pc' := 34) K d3_33 rfl rfl ?_
          refine oW.getf (i := 0) (q := 2) (pc' := 37) K (hw _ (List.mem_of_getElem? (i := 20) rfl)) d3_34 rfl rfl rfl ?_
          refine oW.iconst (v := (1 : Int32)) (pc' := 38) K d3_37 (by decide) rfl ?_
          refine oW.iadd (v := (1 : Int32)) (pc' := 39) K d3_38 (by decide) rfl ?_
          refine oW.putf (i := 0) (q := 2) (ty := .int) (ds' := [(a, .inr ("com/example/lotwise/lotwise/search/SparseVector", [("com/example/lotwise/lotwise/search/SparseVector", "values", "[D", (.ref b)), ("com/example/lotwise/lotwise/search/SparseVector", "index", "[I", (.ref d)), ("com/example/lotwise/lotwise/search/SparseVector", "count", "I", (.int (1 : Int32)))])), (b, .inl (.double, [(.double w0), (.double w1), (.double w2), (.double w3)])), (d, .inl (.int, [(.int (1 : Int32)), (.int x1), (.int x2), (.int x3)]))]) (pc' := 42) K (hw _ (List.mem_of_getElem? (i := 20) rfl)) (Or.inl (hw _ (List.mem_of_getElem? (i := 21) rfl))) (hw _ (List.mem_of_getElem? (i := 1) rfl)) (oAp_0 hw) d3_39 rfl rfl (by decide) rfl rfl rfl rfl ?_
          refine oW.dload (pc' := 44) K d3_42 rfl rfl ?_
          refine oW.dloadN (pc' := 45) K d3_44 rfl rfl ?_
          obtain ⟨v45, ev45⟩ : ∃ z : UInt64, z = FP.dadd w1 v := ⟨_, rfl⟩
          obtain ⟨Sv45, sv45, fv45⟩ := oSV_add hw1 hv hz hD hb1 ev45
          refine oW.dadd (pc' := 46) K d3_45 ev45 (oSV.nn sv45) rfl ?_
          refine oW.dstore (Ls' := #[.val (.ref a), .val (.int (1 : Int32)), .val (.double v), .second, .val (.double w1), .second, .val (.double v45), .second]) (pc' := 48) K d3_46 rfl rfl ?_
          refine oW.aloadN (pc' := 49) K d3_48 rfl rfl rfl ?_
          refine oW.getf (i := 0) (q := 0) (pc' := 52) K (hw _ (List.mem_of_getElem? (i := 10) rfl)) d3_49 rfl rfl rfl ?_
          refine oW.iloadN (pc' := 53) K d3_52 rfl rfl ?_
          refine oW.dload (pc' := 55) K d3_53 rfl rfl ?_
          refine oW.dconst0 (pc' := 56) K d3_55 rfl ?_
          obtain ⟨v56, ev56⟩ : ∃ z : Int32, z = cmpValue (FP.dcmp v45 (0 : UInt64)) .l := ⟨_, rfl⟩
          refine oW.dcmp (pc' := 57) K d3_56 ev56 rfl ?_
          refine oW.if_ne (pc' := 66) (pc3 := 60) K d3_57 (by decide) (by decide) rfl (fun c57 => ?_) (fun c57 => ?_)
          · rw [oSV_eq sv45 (oSV.of (oDK 0 (by decide +kernel) (by decide)) (by first | omega | (have oTs' := oTs; omega) | (simp only [Int32.reduceToInt, Int64.reduceToInt]; omega))) ev56] at c57
            refine oW.dload (pc' := 68) K d3_66 rfl rfl ?_
            refine oW.dastore (i := 1) (k := 1) (ds' := [(a, .inr ("com/example/lotwise/lotwise/search/SparseVector", [("com/example/lotwise/lotwise/search/SparseVector", "values", "[D", (.ref b)), ("com/example/lotwise/lotwise/search/SparseVector", "index", "[I", (.ref d)), ("com/example/lotwise/lotwise/search/SparseVector", "count", "I", (.int (1 : Int32)))])), (b, .inl (.double, [(.double w0), (.double v45), (.double w2), (.double w3)])), (d, .inl (.int, [(.int (1 : Int32)), (.int x1), (.int x2), (.int x3)]))]) (pc' := 69) K d3_68 rfl rfl (by decide) (Nat.lt_of_sub_eq_succ rfl) rfl rfl ?_
            exact oW.retV K rfl d3_69 (by decide) (by decide) ⟨rfl, w0, v45, w2, w3, (W0), (Sv45), (W2), (W3), (1 : Int32), x1, x2, x3, (1 : Int32), rfl, hw0, sv45, hw2, hw3, Or.inr ⟨by decide, rfl⟩, oFE_b rfl fv45 (fun z => c18 z.2) (Or.inr ⟨c57, rfl⟩) hb1, Or.inr ⟨by decide, rfl⟩, Or.inr ⟨by decide, rfl⟩, Or.inl ⟨⟨c18, (Or.inr (Or.inl ⟨rfl, c12⟩))⟩, by decide, (Or.inl ⟨by decide, rfl, rfl, rfl⟩)⟩⟩
          · rw [oSV_eq sv45 (oSV.of (oDK 0 (by decide +kernel) (by decide)) (by first | omega | (have oTs' := oTs; omega) | (simp only [Int32.reduceToInt, Int64.reduceToInt]; omega))) ev56] at c57
            refine oW.ldc2D (pc' := 63) K (hw _ (List.mem_of_getElem? (i := 29) rfl)) d3_60 rfl ?_
            refine oW.goto (pc' := 68) K d3_63 (by decide) (by decide) ?_
            refine oW.dastore (i := 1) (k := 1) (ds' := [(a, .inr ("com/example/lotwise/lotwise/search/SparseVector", [("com/example/lotwise/lotwise/search/SparseVector", "values", "[D", (.ref b)), ("com/example/lotwise/lotwise/search/SparseVector", "index", "[I", (.ref d)), ("com/example/lotwise/lotwise/search/SparseVector", "count", "I", (.int (1 : Int32)))])), (b, .inl (.double, [(.double w0), (.double (118622047889322841 : UInt64)), (.double w2), (.double w3)])), (d, .inl (.int, [(.int (1 : Int32)), (.int x1), (.int x2), (.int x3)]))]) (pc' := 69) K d3_68 rfl rfl (by decide) (Nat.lt_of_sub_eq_succ rfl) rfl rfl ?_
            exact oW.retV K rfl d3_69 (by decide) (by decide) ⟨rfl, w0, (118622047889322841 : UInt64), w2, w3, (W0), (1000), (W2), (W3), (1 : Int32), x1, x2, x3, (1 : Int32), rfl, hw0, oSV.tiny, hw2, hw3, Or.inr ⟨by decide, rfl⟩, oFE_b rfl fv45 (fun z => c18 z.2) (Or.inl ⟨c57, rfl⟩) hb1, Or.inr ⟨by decide, rfl⟩, Or.inr ⟨by decide, rfl⟩, Or.inl ⟨⟨c18, (Or.inr (Or.inl ⟨rfl, c12⟩))⟩, by decide, (Or.inl ⟨by decide, rfl, rfl, rfl⟩)⟩⟩
        · rw [oSV_eq (oSV.of hv (by omega)) (oSV.of (oDK 0 (by decide +kernel) (by decide)) (by first | omega | (have oTs' := oTs; omega) | (simp only [Int32.reduceToInt, Int64.reduceToInt]; omega))) ev17] at c18
          exact oW.retV K rfl d3_21 (by decide) (by decide) ⟨rfl, w0, w1, w2, w3, (W0), (W1), (W2), (W3), x0, x1, x2, x3, (0 : Int32), rfl, hw0, hw1, hw2, hw3, Or.inr ⟨by decide, rfl⟩, oFE_a rfl c12 c18, Or.inr ⟨by decide, rfl⟩, Or.inr ⟨by decide, rfl⟩, Or.inr ⟨oNoD c18, rfl, rfl, rfl, rfl⟩⟩
    · subst hnn
      refine oW.aloadN (pc' := 1) K d3_0 rfl rfl rfl ?_
      refine oW.getf (i := 0) (q := 0) (pc' := 4) K (hw _ (List.mem_of_getElem? (i := 10) rfl)) d3_1 rfl rfl rfl ?_
      refine oW.iloadN (pc' := 5) K d3_4 rfl rfl ?_
      refine oW.daload (i := 1) (k := 1) (pc' := 6) K d3_5 rfl rfl (by decide) rfl rfl ?_
      refine oW.dstore (Ls' := #[.val (.ref a), .val (.int (1 : Int32)), .val (.double v), .second, .val (.double w1), .second, .unset, .unset]) (pc' := 8) K d3_6 rfl rfl ?_
      refine oW.dload (pc' := 10) K d3_8 rfl rfl ?_
      refine oW.dconst0 (pc' := 11) K d3_10 rfl ?_
      obtain ⟨v11, ev11⟩ : ∃ z : Int32, z = cmpValue (FP.dcmp w1 (0 : UInt64)) .l := ⟨_, rfl⟩
      refine oW.dcmp (pc' := 12) K d3_11 ev11 rfl ?_
      refine oW.if_ne (pc' := 42) (pc3 := 15) K d3_12 (by decide) (by decide) rfl (fun c12 => ?_) (fun c12 => ?_)
      · rw [oSV_eq hw1 (oSV.of (oDK 0 (by decide +kernel) (by decide)) (by first | omega | (have oTs' := oTs; omega) | (simp only [Int32.reduceToInt, Int64.reduceToInt]; omega))) ev11] at c12
        refine oW.dload (pc' := 44) K d3_42 rfl rfl ?_
        refine oW.dloadN (pc' := 45) K d3_44 rfl rfl ?_
        obtain ⟨v45, ev45⟩ : ∃ z : UInt64, z = FP.dadd w1 v := ⟨_, rfl⟩
        obtain ⟨Sv45, sv45, fv45⟩ := oSV_add hw1 hv hz hD hb1 ev45
        refine oW.dadd (pc' := 46) K d3_45 ev45 (oSV.nn sv45) rfl ?_
        refine oW.dstore (Ls' := #[.val (.ref a), .val (.int (1 : Int32)), .val (.double v), .second, .val (.double w1), .second, .val (.double v45), .second]) (pc' := 48) K d3_46 rfl rfl ?_
        refine oW.aloadN (pc' := 49) K d3_48 rfl rfl rfl ?_
        refine oW.getf (i := 0) (q := 0) (pc' := 52) K (hw _ (List.mem_of_getElem? (i := 10) rfl)) d3_49 rfl rfl rfl ?_
        refine oW.iloadN (pc' := 53) K d3_52 rfl rfl ?_
        refine oW.dload (pc' := 55) K d3_53 rfl rfl ?_
        refine oW.dconst0 (pc' := 56) K d3_55 rfl ?_
        obtain ⟨v56, ev56⟩ : ∃ z : Int32, z = cmpValue (FP.dcmp v45 (0 : UInt64)) .l := ⟨_, rfl⟩
        refine oW.dcmp (pc' := 57) K d3_56 ev56 rfl ?_
        refine oW.if_ne (pc' := 66) (pc3 := 60) K d3_57 (by decide) (by decide) rfl (fun c57 => ?_) (fun c57 => ?_)
        · rw [oSV_eq sv45 (oSV.of (oDK 0 (by decide +kernel) (by decide)) (by first | omega | (have oTs' := oTs; omega) | (simp only [Int32.reduceToInt, Int64.reduceToInt]; omega))) ev56] at c57
          refine oW.dload (pc' := 68) K d3_66 rfl rfl ?_
          refine oW.dastore (i := 1) (k := 1) (ds' := [(a, .inr ("com/example/lotwise/lotwise/search/SparseVector", [("com/example/lotwise/lotwise/search/SparseVector", "values", "[D", (.ref b)), ("com/example/lotwise/lotwise/search/SparseVector", "index", "[I", (.ref d)), ("com/example/lotwise/lotwise/search/SparseVector", "count", "I", (.int (1 : Int32)))])), (b, .inl (.double, [(.double w0), (.double v45), (.double w2), (.double w3)])), (d, .inl (.int, [(.int x0), (.int x1), (.int x2), (.int x3)]))]) (pc' := 69) K d3_68 rfl rfl (by decide) (Nat.lt_of_sub_eq_succ rfl) rfl rfl ?_
          exact oW.retV K rfl d3_69 (by decide) (by decide) ⟨rfl, w0, v45, w2, w3, (W0), (Sv45), (W2), (W3), x0, x1, x2, x3, (1 : Int32), rfl, hw0, sv45, hw2, hw3, Or.inr ⟨by decide, rfl⟩, oFE_b rfl fv45 (fun z => c12 z.1) (Or.inr ⟨c57, rfl⟩) hb1, Or.inr ⟨by decide, rfl⟩, Or.inr ⟨by decide, rfl⟩, Or.inr ⟨oNoW1 rfl c12, rfl, rfl, rfl, rfl⟩⟩
        · rw [oSV_eq sv45 (oSV.of (oDK 0 (by decide +kernel) (by decide)) (by first | omega | (have oTs' := oTs; omega) | (simp only [Int32.reduceToInt, Int64.reduceToInt]; omega))) ev56] at c57
          refine oW.ldc2D (pc' := 63) K (hw _ (List.mem_of_getElem? (i := 29) rfl)) d3_60 rfl ?_
          refine oW.goto (pc' := 68) K d3_63 (by decide) (by decide) ?_
          refine oW.dastore (i := 1) (k := 1) (ds' := [(a, .inr ("com/example/lotwise/lotwise/search/SparseVector", [("com/example/lotwise/lotwise/search/SparseVector", "values", "[D", (.ref b)), ("com/example/lotwise/lotwise/search/SparseVector", "index", "[I", (.ref d)), ("com/example/lotwise/lotwise/search/SparseVector", "count", "I", (.int (1 : Int32)))])), (b, .inl (.double, [(.double w0), (.double (118622047889322841 : UInt64)), (.double w2), (.double w3)])), (d, .inl (.int, [(.int x0), (.int x1), (.int x2), (.int x3)]))]) (pc' := 69) K d3_68 rfl rfl (by decide) (Nat.lt_of_sub_eq_succ rfl) rfl rfl ?_
          exact oW.retV K rfl d3_69 (by decide) (by decide) ⟨rfl, w0, (118622047889322841 : UInt64), w2, w3, (W0), (1000), (W2), (W3), x0, x1, x2, x3, (1 : Int32), rfl, hw0, oSV.tiny, hw2, hw3, Or.inr ⟨by decide, rfl⟩, oFE_b rfl fv45 (fun z => c12 z.1) (Or.inl ⟨c57, rfl⟩) hb1, Or.inr ⟨by decide, rfl⟩, Or.inr ⟨by decide, rfl⟩, Or.inr ⟨oNoW1 rfl c12, rfl, rfl, rfl, rfl⟩⟩
      · rw [oSV_eq hw1 (oSV.of (oDK 0 (by decide +kernel) (by decide)) (by first | omega | (have oTs' := oTs; omega) | (simp only [Int32.reduceToInt, Int64.reduceToInt]; omega))) ev11] at c12
        refine oW.dloadN (pc' := 16) K d3_15 rfl rfl ?_
        refine oW.dconst0 (pc' := 17) K d3_16 rfl ?_
        obtain ⟨v17, ev17⟩ : ∃ z : Int32, z = cmpValue (FP.dcmp v (0 : UInt64)) .l := ⟨_, rfl⟩
        refine oW.dcmp (pc' := 18) K d3_17 ev17 rfl ?_
        refine oW.if_ne (pc' := 22) (pc3 := 21) K d3_18 (by decide) (by decide) rfl (fun c18 => ?_) (fun c18 => ?_)
        · rw [oSV_eq (oSV.of hv (by omega)) (oSV.of (oDK 0 (by decide +kernel) (by decide)) (by first | omega | (have oTs' := oTs; omega) | (simp only [Int32.reduceToInt, Int64.reduceToInt]; omega))) ev17] at c18
          refine oW.aloadN (pc' := 23) K d3_22 rfl rfl rfl ?_
          refine oW.getf (i := 0) (q := 1) (pc' := 26) K (hw _ (List.mem_of_getElem? (i := 13) rfl)) d3_23 rfl rfl rfl ?_
          refine oW.aloadN (pc' := 27) K d3_26 rfl rfl rfl ?_
          refine oW.getf (i := 0) (q := 2) (pc' := 30) K (hw _ (List.mem_of_getElem? (i := 20) rfl)) d3_27 rfl rfl rfl ?_
          refine oW.iloadN (pc' := 31) K d3_30 rfl rfl ?_
          refine oW.iastore (i := 2) (k := 1) (ds' := [(a, .inr ("com/example/lotwise/lotwise/search/SparseVector", [("com/example/lotwise/lotwise/search/SparseVector", "values", "[D", (.ref b)), ("com/example/lotwise/lotwise/search/SparseVector", "index", "[I", (.ref d)), ("com/example/lotwise/lotwise/search/SparseVector", "count", "I", (.int (1 : Int32)))])), (b, .inl (.double, [(.double w0), (.double w1), (.double w2), (.double w3)])), (d, .inl (.int, [(.int x0), (.int (1 : Int32)), (.int x2), (.int x3)]))]) (pc' := 32) K d3_31 rfl rfl (by decide) (Nat.lt_of_sub_eq_succ rfl) rfl rfl ?_
          refine oW.aloadN (pc' := 33) K d3_32 rfl rfl rfl ?_
          refine oW.dup (pc' := 34) K d3_33 rfl rfl ?_
          refine oW.getf (i := 0) (q := 2) (pc' := 37) K (hw _ (List.mem_of_getElem? (i := 20) rfl)) d3_34 rfl rfl rfl ?_
          refine oW.iconst (v := (1 : Int32)) (pc' := 38) K d3_37 (by decide) rfl ?_
          refine oW.iadd (v := (2 : Int32)) (pc' := 39) K d3_38 (by decide) rfl ?_
          refine oW.putf (i := 0) (q := 2) (ty := .int) (ds' := [(a, .inr ("com/example/lotwise/lotwise/search/SparseVector", [("com/example/lotwise/lotwise/search/SparseVector", "values", "[D", (.ref b)), ("com/example/lotwise/lotwise/search/SparseVector", "index", "[I", (.ref d)), ("com/example/lotwise/lotwise/search/SparseVector", "count", "I", (.int (2 : Int32)))])), (b, .inl (.double, [(.double w0), (.double w1), (.double w2), (.double w3)])), (d, .inl (.int, [(.int x0), (.int (1 : Int32)), (.int x2), (.int x3)]))]) (pc' := 42) K (hw _ (List.mem_of_getElem? (i := 20) rfl)) (Or.inl (hw _ (List.mem_of_getElem? (i := 21) rfl))) (hw _ (List.mem_of_getElem? (i := 1) rfl)) (oAp_0 hw) d3_39 rfl rfl (by decide) rfl rfl rfl rfl ?_
          refine oW.dload (pc' := 44) K d3_42 rfl rfl ?_
          refine oW.dloadN (pc' := 45) K d3_44 rfl rfl ?_
          obtain ⟨v45, ev45⟩ : ∃ z : UInt64, z = FP.dadd w1 v := ⟨_, rfl⟩
          obtain ⟨Sv45, sv45, fv45⟩ := oSV_add hw1 hv hz hD hb1 ev45
          refine oW.dadd (pc' := 46) K d3_45 ev45 (oSV.nn sv45) rfl ?_
          refine oW.dstore (Ls' := #[.val (.ref a), .val (.int (1 : Int32)), .val (.double v), .second, .val (.double w1), .second, .val (.double v45), .second]) (pc' := 48) K d3_46 rfl rfl ?_
          refine oW.aloadN (pc' := 49) K d3_48 rfl rfl rfl ?_
          refine oW.getf (i := 0) (q := 0) (pc' := 52) K (hw _ (List.mem_of_getElem? (i := 10) rfl)) d3_49 rfl rfl rfl ?_
          refine oW.iloadN (pc' := 53) K d3_52 rfl rfl ?_
          refine oW.dload (pc' := 55) K d3_53 rfl rfl ?_
          refine oW.dconst0 (pc' := 56) K d3_55 rfl ?_
          obtain ⟨v56, ev56⟩ : ∃ z : Int32, z = cmpValue (FP.dcmp v45 (0 : UInt64)) .l := ⟨_, rfl⟩
          refine oW.dcmp (pc' := 57) K d3_56 ev56 rfl ?_
          refine oW.if_ne (pc' := 66) (pc3 := 60) K d3_57 (by decide) (by decide) rfl (fun c57 => ?_) (fun c57 => ?_)
          · rw [oSV_eq sv45 (oSV.of (oDK 0 (by decide +kernel) (by decide)) (by first | omega | (have oTs' := oTs; omega) | (simp only [Int32.reduceToInt, Int64.reduceToInt]; omega))) ev56] at c57
            refine oW.dload (pc' := 68) K d3_66 rfl rfl ?_
            refine oW.dastore (i := 1) (k := 1) (ds' := [(a, .inr ("com/example/lotwise/lotwise/search/SparseVector", [("com/example/lotwise/lotwise/search/SparseVector", "values", "[D", (.ref b)), ("com/example/lotwise/lotwise/search/SparseVector", "index", "[I", (.ref d)), ("com/example/lotwise/lotwise/search/SparseVector", "count", "I", (.int (2 : Int32)))])), (b, .inl (.double, [(.double w0), (.double v45), (.double w2), (.double w3)])), (d, .inl (.int, [(.int x0), (.int (1 : Int32)), (.int x2), (.int x3)]))]) (pc' := 69) K d3_68 rfl rfl (by decide) (Nat.lt_of_sub_eq_succ rfl) rfl rfl ?_
            exact oW.retV K rfl d3_69 (by decide) (by decide) ⟨rfl, w0, v45, w2, w3, (W0), (Sv45), (W2), (W3), x0, (1 : Int32), x2, x3, (2 : Int32), rfl, hw0, sv45, hw2, hw3, Or.inr ⟨by decide, rfl⟩, oFE_b rfl fv45 (fun z => c18 z.2) (Or.inr ⟨c57, rfl⟩) hb1, Or.inr ⟨by decide, rfl⟩, Or.inr ⟨by decide, rfl⟩, Or.inl ⟨⟨c18, (Or.inr (Or.inl ⟨rfl, c12⟩))⟩, by decide, (Or.inr (Or.inl ⟨by decide, rfl, rfl, rfl⟩))⟩⟩
          · rw [oSV_eq sv45 (oSV.of (oDK 0 (by decide +kernel) (by decide)) (by first | omega | (have oTs' := oTs; omega) | (simp only [Int32.reduceToInt, Int64.reduceToInt]; omega))) ev56] at c57
            refine oW.ldc2D (pc' := 63) K (hw _ (List.mem_of_getElem? (i := 29) rfl)) d3_60 rfl ?_
            refine oW.goto (pc' := 68) K d3_63 (by decide) (by decide) ?_
            refine oW.dastore (i := 1) (k := 1) (ds' := [(a, .inr ("com/example/lotwise/lotwise/search/SparseVector", [("com/example/lotwise/lotwise/search/SparseVector", "values", "[D", (.ref b)), ("com/example/lotwise/lotwise/search/SparseVector", "index", "[I", (.ref d)), ("com/example/lotwise/lotwise/search/SparseVector", "count", "I", (.int (2 : Int32)))])), (b, .inl (.double, [(.double w0), (.double (118622047889322841 : UInt64)), (.double w2), (.double w3)])), (d, .inl (.int, [(.int x0), (.int (1 : Int32)), (.int x2), (.int x3)]))]) (pc' := 69) K d3_68 rfl rfl (by decide) (Nat.lt_of_sub_eq_succ rfl) rfl rfl ?_
            exact oW.retV K rfl d3_69 (by decide) (by decide) ⟨rfl, w0, (118622047889322841 : UInt64), w2, w3, (W0), (1000), (W2), (W3), x0, (1 : Int32), x2, x3, (2 : Int32), rfl, hw0, oSV.tiny, hw2, hw3, Or.inr ⟨by decide, rfl⟩, oFE_b rfl fv45 (fun z => c18 z.2) (Or.inl ⟨c57, rfl⟩) hb1, Or.inr ⟨by decide, rfl⟩, Or.inr ⟨by decide, rfl⟩, Or.inl ⟨⟨c18, (Or.inr (Or.inl ⟨rfl, c12⟩))⟩, by decide, (Or.inr (Or.inl ⟨by decide, rfl, rfl, rfl⟩))⟩⟩
        · rw [oSV_eq (oSV.of hv (by omega)) (oSV.of (oDK 0 (by decide +kernel) (by decide)) (by first | omega | (have oTs' := oTs; omega) | (simp only [Int32.reduceToInt, Int64.reduceToInt]; omega))) ev17] at c18
          exact oW.retV K rfl d3_21 (by decide) (by decide) ⟨rfl, w0, w1, w2, w3, (W0), (W1), (W2), (W3), x0, x1, x2, x3, (1 : Int32), rfl, hw0, hw1, hw2, hw3, Or.inr ⟨by decide, rfl⟩, oFE_a rfl c12 c18, Or.inr ⟨by decide, rfl⟩, Or.inr ⟨by decide, rfl⟩, Or.inr ⟨oNoD c18, rfl, rfl, rfl, rfl⟩⟩
    · subst hnn
      refine oW.aloadN (pc' := 1) K d3_0 rfl rfl rfl ?_
      refine oW.getf (i := 0) (q := 0) (pc' := 4) K (hw _ (List.mem_of_getElem? (i := 10) rfl)) d3_1 rfl rfl rfl ?_
      refine oW.iloadN (pc' := 5) K d3_4 rfl rfl ?_
      refine oW.daload (i := 1) (k := 1) (pc' := 6) K d3_5 rfl rfl (by decide) rfl rfl ?_
      refine oW.dstore (Ls' := #[.val (.ref a), .val (.int (1 : Int32)), .val (.double v), .second, .val (.double w1), .second, .unset, .unset]) (pc' := 8) K d3_6 rfl rfl ?_
      refine oW.dload (pc' := 10) K d3_8 rfl rfl ?_
      refine oW.dconst0 (pc' := 11) K d3_10 rfl ?_
      obtain ⟨v11, ev11⟩ : ∃ z : Int32, z = cmpValue (FP.dcmp w1 (0 : UInt64)) .l := ⟨_, rfl⟩
      refine oW.dcmp (pc' := 12) K d3_11 ev11 rfl ?_
      refine oW.if_ne (pc' := 42) (pc3 := 15) K d3_12 (by decide) (by decide) rfl (fun c12 => ?_) (fun c12 => ?_)
      · rw [oSV_eq hw1 (oSV.of (oDK 0 (by decide +kernel) (by decide)) (by first | omega | (have oTs' := oTs; omega) | (simp only [Int32.reduceToInt, Int64.reduceToInt]; omega))) ev11] at c12
        refine oW.dload (pc' := 44) K d3_42 rfl rfl ?_
        refine oW.dloadN (pc' := 45) K d3_44 rfl rfl ?_
        obtain ⟨v45, ev45⟩ : ∃ z : UInt64, z = FP.dadd w1 v := ⟨_, rfl⟩
        obtain ⟨Sv45, sv45, fv45⟩ := oSV_add hw1 hv hz hD hb1 ev45
        refine oW.dadd (pc' := 46) K d3_45 ev45 (oSV.nn sv45) rfl ?_
        refine oW.dstore (Ls' := #[.val (.ref a), .val (.int (1 : Int32)), .val (.double v), .second, .val (.double w1), .second, .val (.double v45), .second]) (pc' := 48) K d3_46 rfl rfl ?_
        refine oW.aloadN (pc' := 49) K d3_48 rfl rfl rfl ?_
        refine oW.getf (i := 0) (q := 0) (pc' := 52) K (hw _ (List.mem_of_getElem? (i := 10) rfl)) d3_49 rfl rfl rfl ?_
        refine oW.iloadN (pc' := 53) K d3_52 rfl rfl ?_
        refine oW.dload (pc' := 55) K d3_53 rfl rfl ?_
        refine oW.dconst0 (pc' := 56) K d3_55 rfl ?_
        obtain ⟨v56, ev56⟩ : ∃ z : Int32, z = cmpValue (FP.dcmp v45 (0 : UInt64)) .l := ⟨_, rfl⟩
        refine oW.dcmp (pc' := 57) K d3_56 ev56 rfl ?_
        refine oW.if_ne (pc' := 66) (pc3 := 60) K d3_57 (by decide) (by decide) rfl (fun c57 => ?_) (fun c57 => ?_)
        · rw [oSV_eq sv45 (oSV.of (oDK 0 (by decide +kernel) (by decide)) (by first | omega | (have oTs' := oTs; omega) | (simp only [Int32.reduceToInt, Int64.reduceToInt]; omega))) ev56] at c57
          refine oW.dload (pc' := 68) K d3_66 rfl rfl ?_
          refine oW.dastore (i := 1) (k := 1) (ds' := [(a, .inr ("com/example/lotwise/lotwise/search/SparseVector", [("com/example/lotwise/lotwise/search/SparseVector", "values", "[D", (.ref b)), ("com/example/lotwise/lotwise/search/SparseVector", "index", "[I", (.ref d)), ("com/example/lotwise/lotwise/search/SparseVector", "count", "I", (.int (2 : Int32)))])), (b, .inl (.double, [(.double w0), (.double v45), (.double w2), (.double w3)])), (d, .inl (.int, [(.int x0), (.int x1), (.int x2), (.int x3)]))]) (pc' := 69) K d3_68 rfl rfl (by decide) (Nat.lt_of_sub_eq_succ rfl) rfl rfl ?_
          exact oW.retV K rfl d3_69 (by decide) (by decide) ⟨rfl, w0, v45, w2, w3, (W0), (Sv45), (W2), (W3), x0, x1, x2, x3, (2 : Int32), rfl, hw0, sv45, hw2, hw3, Or.inr ⟨by decide, rfl⟩, oFE_b rfl fv45 (fun z => c12 z.1) (Or.inr ⟨c57, rfl⟩) hb1, Or.inr ⟨by decide, rfl⟩, Or.inr ⟨by decide, rfl⟩, Or.inr ⟨oNoW1 rfl c12, rfl, rfl, rfl, rfl⟩⟩
        · rw [oSV_eq sv45 (oSV.of (oDK 0 (by decide +kernel) (by decide)) (by first | omega | (have oTs' := oTs; omega) | (simp only [Int32.reduceToInt, Int64.reduceToInt]; omega))) ev56] at c57
          refine oW.ldc2D (pc' := 63) K (hw _ (List.mem_of_getElem? (i := 29) rfl)) d3_60 rfl ?_
          refine oW.goto (pc' := 68) K d3_63 (by decide) (by decide) ?_
          refine oW.dastore (i := 1) (k := 1) (ds' := [(a, .inr ("com/example/lotwise/lotwise/search/SparseVector", [("com/example/lotwise/lotwise/search/SparseVector", "values", "[D", (.ref b)), ("com/example/lotwise/lotwise/search/SparseVector", "index", "[I", (.ref d)), ("com/example/lotwise/lotwise/search/SparseVector", "count", "I", (.int (2 : Int32)))])), (b, .inl (.double, [(.double w0), (.double (118622047889322841 : UInt64)), (.double w2), (.double w3)])), (d, .inl (.int, [(.int x0), (.int x1), (.int x2), (.int x3)]))]) (pc' := 69) K d3_68 rfl rfl (by decide) (Nat.lt_of_sub_eq_succ rfl) rfl rfl ?_
          exact oW.retV K rfl d3_69 (by decide) (by decide) ⟨rfl, w0, (118622047889322841 : UInt64), w2, w3, (W0), (1000), (W2), (W3), x0, x1, x2, x3, (2 : Int32), rfl, hw0, oSV.tiny, hw2, hw3, Or.inr ⟨by decide, rfl⟩, oFE_b rfl fv45 (fun z => c12 z.1) (Or.inl ⟨c57, rfl⟩) hb1, Or.inr ⟨by decide, rfl⟩, Or.inr ⟨by decide, rfl⟩, Or.inr ⟨oNoW1 rfl c12, rfl, rfl, rfl, rfl⟩⟩
      · rw [oSV_eq hw1 (oSV.of (oDK 0 (by decide +kernel) (by decide)) (by first | omega | (have oTs' := oTs; omega) | (simp only [Int32.reduceToInt, Int64.reduceToInt]; omega))) ev11] at c12
        refine oW.dloadN (pc' := 16) K d3_15 rfl rfl ?_
        refine oW.dconst0 (pc' := 17) K d3_16 rfl ?_
        obtain ⟨v17, ev17⟩ : ∃ z : Int32, z = cmpValue (FP.dcmp v (0 : UInt64)) .l := ⟨_, rfl⟩
        refine oW.dcmp (pc' := 18) K d3_17 ev17 rfl ?_
        refine oW.if_ne (pc' := 22) (pc3 := 21) K d3_18 (by decide) (by decide) rfl (fun c18 => ?_) (fun c18 => ?_)
        · rw [oSV_eq (oSV.of hv (by omega)) (oSV.of (oDK 0 (by decide +kernel) (by decide)) (by first | omega | (have oTs' := oTs; omega) | (simp only [Int32.reduceToInt, Int64.reduceToInt]; omega))) ev17] at c18
          refine oW.aloadN (pc' := 23) K d3_22 rfl rfl rfl ?_
          refine oW.getf (i := 0) (q := 1) (pc' := 26) K (hw _ (List.mem_of_getElem? (i := 13) rfl)) d3_23 rfl rfl rfl ?_
          refine oW.aloadN (pc' := 27) K d3_26 rfl rfl rfl ?_
          refine oW.getf (i := 0) (q := 2) (pc' := 30) K (hw _ (List.mem_of_getElem? (i := 20) rfl)) d3_27 rfl rfl rfl ?_
          refine oW.iloadN (pc' := 31) K d3_30 rfl rfl ?_
          refine oW.iastore (i := 2) (k := 2) (ds' := [(a, .inr ("com/example/lotwise/lotwise/search/SparseVector", [("com/example/lotwise/lotwise/search/SparseVector", "values", "[D", (.ref b)), ("com/example/lotwise/lotwise/search/SparseVector", "index", "[I", (.ref d)), ("com/example/lotwise/lotwise/search/SparseVector", "count", "I", (.int (2 : Int32)))])), (b, .inl (.double, [(.double w0), (.double w1), (.double w2), (.double w3)])), (d, .inl (.int, [(.int x0), (.int x1), (.int (1 : Int32)), (.int x3)]))]) (pc' := 32) K d3_31 rfl rfl (by decide) (Nat.lt_of_sub_eq_succ rfl) rfl rfl ?_
          refine oW.aloadN (pc' := 33) K d3_32 rfl rfl rfl ?_
          refine oW.dup (pc' := 34) K d3_33 rfl rfl ?_
          refine oW.getf (i := 0) (q := 2) (pc' := 37) K (hw _ (List.mem_of_getElem? (i := 20) rfl)) d3_34 rfl rfl rfl ?_
          refine oW.iconst (v := (1 : Int32)) (pc' := 38) K d3_37 (by decide) rfl ?_
          refine oW.iadd (v := (3 : Int32)) (pc' := 39) K d3_38 (by decide) rfl ?_
          refine oW.putf (i := 0) (q := 2) (ty := .int) (ds' := [(a, .inr ("com/example/lotwise/lotwise/search/SparseVector", [("com/example/lotwise/lotwise/search/SparseVector", "values", "[D", (.ref b)), ("com/example/lotwise/lotwise/search/SparseVector", "index", "[I", (.ref d)), ("com/example/lotwise/lotwise/search/SparseVector", "count", "I", (.int (3 : Int32)))])), (b, .inl (.double, [(.double w0), (.double w1), (.double w2), (.double w3)])), (d, .inl (.int, [(.int x0), (.int x1), (.int (1 : Int32)), (.int x3)]))]) (pc' := 42) K (hw _ (List.mem_of_getElem? (i := 20) rfl)) (Or.inl (hw _ (List.mem_of_getElem? (i := 21) rfl))) (hw _ (List.mem_of_getElem? (i := 1) rfl)) (oAp_0 hw) d3_39 rfl rfl (by decide) rfl rfl rfl rfl ?_
          refine oW.dload (pc' := 44) K d3_42 rfl rfl ?_
          refine oW.dloadN (pc' := 45) K d3_44 rfl rfl ?_
          obtain ⟨v45, ev45⟩ : ∃ z : UInt64, z = FP.dadd w1 v := ⟨_, rfl⟩
          obtain ⟨Sv45, sv45, fv45⟩ := oSV_add hw1 hv hz hD hb1 ev45
          refine oW.dadd (pc' := 46) K d3_45 ev45 (oSV.nn sv45) rfl ?_
          refine oW.dstore (Ls' := #[.val (.ref a), .val (.int (1 : Int32)), .val (.double v), .second, .val (.double w1), .second, .val (.double v45), .second]) (pc' := 48) K d3_46 rfl rfl ?_
          refine oW.aloadN (pc' := 49) K d3_48 rfl rfl rfl ?_
          refine oW.getf (i := 0) (q := 0) (pc' := 52) K (hw _ (List.mem_of_getElem? (i := 10) rfl)) d3_49 rfl rfl rfl ?_
          refine oW.iloadN (pc' := 53) K d3_52 rfl rfl ?_
          refine oW.dload (pc' := 55) K d3_53 rfl rfl ?_
          refine oW.dconst0 (pc' := 56) K d3_55 rfl ?_
          obtain ⟨v56, ev56⟩ : ∃ z : Int32, z = cmpValue (FP.dcmp v45 (0 : UInt64)) .l := ⟨_, rfl⟩
          refine oW.dcmp (pc' := 57) K d3_56 ev56 rfl ?_
          refine oW.if_ne (pc' := 66) (pc3 := 60) K d3_57 (by decide) (by decide) rfl (fun c57 => ?_) (fun c57 => ?_)
          · rw [oSV_eq sv45 (oSV.of (oDK 0 (by decide +kernel) (by decide)) (by first | omega | (have oTs' := oTs; omega) | (simp only [Int32.reduceToInt, Int64.reduceToInt]; omega))) ev56] at c57
            refine oW.dload (pc' := 68) K d3_66 rfl rfl ?_
            refine oW.dastore (i := 1) (k := 1) (ds' := [(a, .inr ("com/example/lotwise/lotwise/search/SparseVector", [("com/example/lotwise/lotwise/search/SparseVector", "values", "[D", (.ref b)), ("com/example/lotwise/lotwise/search/SparseVector", "index", "[I", (.ref d)), ("com/example/lotwise/lotwise/search/SparseVector", "count", "I", (.int (3 : Int32)))])), (b, .inl (.double, [(.double w0), (.double v45), (.double w2), (.double w3)])), (d, .inl (.int, [(.int x0), (.int x1), (.int (1 : Int32)), (.int x3)]))]) (pc' := 69) K d3_68 rfl rfl (by decide) (Nat.lt_of_sub_eq_succ rfl) rfl rfl ?_
            exact oW.retV K rfl d3_69 (by decide) (by decide) ⟨rfl, w0, v45, w2, w3, (W0), (Sv45), (W2), (W3), x0, x1, (1 : Int32), x3, (3 : Int32), rfl, hw0, sv45, hw2, hw3, Or.inr ⟨by decide, rfl⟩, oFE_b rfl fv45 (fun z => c18 z.2) (Or.inr ⟨c57, rfl⟩) hb1, Or.inr ⟨by decide, rfl⟩, Or.inr ⟨by decide, rfl⟩, Or.inl ⟨⟨c18, (Or.inr (Or.inl ⟨rfl, c12⟩))⟩, by decide, (Or.inr (Or.inr (⟨by decide, rfl, rfl, rfl⟩)))⟩⟩
          · rw [oSV_eq sv45 (oSV.of (oDK 0 (by decide +kernel) (by decide)) (by first | omega | (have oTs' := oTs; omega) | (simp only [Int32.reduceToInt, Int64.reduceToInt]; omega))) ev56] at c57
            refine oW.ldc2D (pc' := 63) K (hw _ (List.mem_of_getElem? (i := 29) rfl)) d3_60 rfl ?_
            refine oW.goto (pc' := 68) K d3_63 (by decide) (by decide) ?_
            refine oW.dastore (i := 1) (k := 1) (ds' := [(a, .inr ("com/example/lotwise/lotwise/search/SparseVector", [("com/example/lotwise/lotwise/search/SparseVector", "values", "[D", (.ref b)), ("com/example/lotwise/lotwise/search/SparseVector", "index", "[I", (.ref d)), ("com/example/lotwise/lotwise/search/SparseVector", "count", "I", (.int (3 : Int32)))])), (b, .inl (.double, [(.double w0), (.double (118622047889322841 : UInt64)), (.double w2), (.double w3)])), (d, .inl (.int, [(.int x0), (.int x1), (.int (1 : Int32)), (.int x3)]))]) (pc' := 69) K d3_68 rfl rfl (by decide) (Nat.lt_of_sub_eq_succ rfl) rfl rfl ?_
            exact oW.retV K rfl d3_69 (by decide) (by decide) ⟨rfl, w0, (118622047889322841 : UInt64), w2, w3, (W0), (1000), (W2), (W3), x0, x1, (1 : Int32), x3, (3 : Int32), rfl, hw0, oSV.tiny, hw2, hw3, Or.inr ⟨by decide, rfl⟩, oFE_b rfl fv45 (fun z => c18 z.2) (Or.inl ⟨c57, rfl⟩) hb1, Or.inr ⟨by decide, rfl⟩, Or.inr ⟨by decide, rfl⟩, Or.inl ⟨⟨c18, (Or.inr (Or.inl ⟨rfl, c12⟩))⟩, by decide, (Or.inr (Or.inr (⟨by decide, rfl, rfl, rfl⟩)))⟩⟩
        · rw [oSV_eq (oSV.of hv (by omega)) (oSV.of (oDK 0 (by decide +kernel) (by decide)) (by first | omega | (have oTs' := oTs; omega) | (simp only [Int32.reduceToInt, Int64.reduceToInt]; omega))) ev17] at c18
          exact oW.retV K rfl d3_21 (by decide) (by decide) ⟨rfl, w0, w1, w2, w3, (W0), (W1), (W2), (W3), x0, x1, x2, x3, (2 : Int32), rfl, hw0, hw1, hw2, hw3, Or.inr ⟨by decide, rfl⟩, oFE_a rfl c12 c18, Or.inr ⟨by decide, rfl⟩, Or.inr ⟨by decide, rfl⟩, Or.inr ⟨oNoD c18, rfl, rfl, rfl, rfl⟩⟩
  · subst hpi
    rcases hn' with hnn | hnn | hnn
    · subst hnn
      refine oW.aloadN (pc' := 1) K d3_0 rfl rfl rfl ?_
      refine oW.getf (i := 0) (q := 0) (pc' := 4) K (hw _ (List.mem_of_getElem? (i := 10) rfl)) d3_1 rfl rfl rfl ?_
      refine oW.iloadN (pc' := 5) K d3_4 rfl rfl ?_
      refine oW.daload (i := 1) (k := 2) (pc' := 6) K d3_5 rfl rfl (by decide) rfl rfl ?_
      refine oW.dstore (Ls' := #[.val (.ref a), .val (.int (2 : Int32)), .val (.double v), .second, .val (.double w2), .second, .unset, .unset]) (pc' := 8) K d3_6 rfl rfl ?_
      refine oW.dload (pc' := 10) K d3_8 rfl rfl ?_
      refine oW.dconst0 (pc' := 11) K d3_10 rfl ?_
      obtain ⟨v11, ev11⟩ : ∃ z : Int32, z = cmpValue (FP.dcmp w2 (0 : UInt64)) .l := ⟨_, rfl⟩
      refine oW.dcmp (pc' := 12) K d3_11 ev11 rfl ?_
      refine oW.if_ne (pc' := 42) (pc3 := 15) K d3_12 (by decide) (by decide) rfl (fun c12 => ?_) (fun c12 => ?_)
      · rw [oSV_eq hw2 (oSV.of (oDK 0 (by decide +kernel) (by decide)) (by first | omega | (have oTs' := oTs; omega) | (simp only [Int32.reduceToInt, Int64.reduceToInt]; omega))) ev11] at c12
        refine oW.dload (pc' := 44) K d3_42 rfl rfl ?_
        refine oW.dloadN (pc' := 45) K d3_44 rfl rfl ?_
        obtain ⟨v45, ev45⟩ : ∃ z : UInt64, z = FP.dadd w2 v := ⟨_, rfl⟩
        obtain ⟨Sv45, sv45, fv45⟩ := oSV_add hw2 hv hz hD hb2 ev45
        refine oW.dadd (pc' := 46) K d3_45 ev45 (oSV.nn sv45) rfl ?_
        refine oW.dstore (Ls' := #[.val (.ref a), .val (.int (2 : Int32)), .val (.double v), .second, .val (.double w2), .second, .val (.double v45), .second]) (pc' := 48) K d3_46 rfl rfl ?_
        refine oW.aloadN (pc' := 49) K d3_48 rfl rfl rfl ?_
        refine oW.getf (i := 0) (q := 0) (pc' := 52) K (hw _ (List.mem_of_getElem? (i := 10) rfl)) d3_49 rfl rfl rfl ?_
        refine oW.iloadN (pc' := 53) K d3_52 rfl rfl ?_
        refine oW.dload (pc' := 55) K d3_53 rfl rfl ?_
        refine oW.dconst0 (pc' := 56) K d3_55 rfl ?_
        obtain ⟨v56, ev56⟩ : ∃ z : Int32, z = cmpValue (FP.dcmp v45 (0 : UInt64)) .l := ⟨_, rfl⟩
        refine oW.dcmp (pc' := 57) K d3_56 ev56 rfl ?_
        refine oW.if_ne (pc' := 66) (pc3 := 60) K d3_57 (by decide) (by decide) rfl (fun c57 => ?_) (fun c57 => ?_)
        · rw [oSV_eq sv45 (oSV.of (oDK 0 (by decide +kernel) (by decide)) (by first | omega | (have oTs' := oTs; omega) | (simp only [Int32.reduceToInt, Int64.reduceToInt]; omega))) ev56] at c57
          refine oW.dload (pc' := 68) K d3_66 rfl rfl ?_
          refine oW.dastore (i := 1) (k := 2) (ds' := [(a, .inr ("com/example/lotwise/lotwise/search/SparseVector", [("com/example/lotwise/lotwise/search/SparseVector", "values", "[D", (.ref b)), ("com/example/lotwise/lotwise/search/SparseVector", "index", "[I", (.ref d)), ("com/example/lotwise/lotwise/search/SparseVector", "count", "I", (.int (0 : Int32)))])), (b, .inl (.double, [(.double w0), (.double w1), (.double v45), (.double w3)])), (d, .inl (.int, [(.int x0), (.int x1), (.int x2), (.int x3)]))]) (pc' := 69) K d3_68 rfl rfl (by decide) (Nat.lt_of_sub_eq_succ rfl) rfl rfl ?_
          exact oW.retV K rfl d3_69 (by decide) (by decide) ⟨rfl, w0, w1, v45, w3, (W0), (W1), (Sv45), (W3), x0, x1, x2, x3, (0 : Int32), rfl, hw0, hw1, sv45, hw3, Or.inr ⟨by decide, rfl⟩, Or.inr ⟨by decide, rfl⟩, oFE_b rfl fv45 (fun z => c12 z.1) (Or.inr ⟨c57, rfl⟩) hb2, Or.inr ⟨by decide, rfl⟩, Or.inr ⟨oNoW2 rfl c12, rfl, rfl, rfl, rfl⟩⟩
        · rw [oSV_eq sv45 (oSV.of (oDK 0 (by decide +kernel) (by decide)) (by first | omega | (have oTs' := oTs; omega) | (simp only [Int32.reduceToInt, Int64.reduceToInt]; omega))) ev56] at c57
          refine oW.ldc2D (pc' := 63) K (hw _ (List.mem_of_getElem? (i := 29) rfl)) d3_60 rfl ?_
          refine oW.goto (pc' := 68) K d3_63 (by decide) (by decide) ?_
          refine oW.dastore (i := 1) (k := 2) (ds' := [(a, .inr ("com/example/lotwise/lotwise/search/SparseVector", [("com/example/lotwise/lotwise/search/SparseVector", "values", "[D", (.ref b)), ("com/example/lotwise/lotwise/search/SparseVector", "index", "[I", (.ref d)), ("com/example/lotwise/lotwise/search/SparseVector", "count", "I", (.int (0 : Int32)))])), (b, .inl (.double, [(.double w0), (.double w1), (.double (118622047889322841 : UInt64)), (.double w3)])), (d, .inl (.int, [(.int x0), (.int x1), (.int x2), (.int x3)]))]) (pc' := 69) K d3_68 rfl rfl (by decide) (Nat.lt_of_sub_eq_succ rfl) rfl rfl ?_
          exact oW.retV K rfl d3_69 (by decide) (by decide) ⟨rfl, w0, w1, (118622047889322841 : UInt64), w3, (W0), (W1), (1000), (W3), x0, x1, x2, x3, (0 : Int32), rfl, hw0, hw1, oSV.tiny, hw3, Or.inr ⟨by decide, rfl⟩, Or.inr ⟨by decide, rfl⟩, oFE_b rfl fv45 (fun z => c12 z.1) (Or.inl ⟨c57, rfl⟩) hb2, Or.inr ⟨by decide, rfl⟩, Or.inr ⟨oNoW2 rfl c12, rfl, rfl, rfl, rfl⟩⟩
      · rw [oSV_eq hw2 (oSV.of (oDK 0 (by decide +kernel) (by decide)) (by first | omega | (have oTs' := oTs; omega) | (simp only [Int32.reduceToInt, Int64.reduceToInt]; omega))) ev11] at c12
        refine oW.dloadN (pc' := 16) K d3_15 rfl rfl ?_
        refine oW.dconst0 (pc' := 17) K d3_16 rfl ?_
        obtain ⟨v17, ev17⟩ : ∃ z : Int32, z = cmpValue (FP.dcmp v (0 : UInt64)) .l := ⟨_, rfl⟩
        refine oW.dcmp (pc' := 18) K d3_17 ev17 rfl ?_
        refine oW.if_ne (pc' := 22) (pc3 := 21) K d3_18 (by decide) (by decide) rfl (fun c18 => ?_) (fun c18 => ?_)
        · rw [oSV_eq (oSV.of hv (by omega)) (oSV.of (oDK 0 (by decide +kernel) (by decide)) (by first | omega | (have oTs' := oTs; omega) | (simp only [Int32.reduceToInt, Int64.reduceToInt]; omega))) ev17] at c18
          refine oW.aloadN (pc' := 23) K d3_22 rfl rfl rfl ?_
          refine oW.getf (i := 0) (q := 1) (pc' := 26) K (hw _ (List.mem_of_getElem? (i := 13) rfl)) d3_23 rfl rfl rfl ?_
          refine oW.aloadN (pc' := 27) K d3_26 rfl rfl rfl ?_
          refine oW.getf (i := 0) (q := 2) (pc' := 30) K (hw _ (List.mem_of_getElem? (i := 20) rfl)) d3_27 rfl rfl rfl ?_
          refine oW.iloadN (pc' := 31) K d3_30 rfl rfl ?_
          refine oW.iastore (i := 2) (k := 0) (ds' := [(a, .inr ("com/example/lotwise/lotwise/search/SparseVector", [("com/example/lotwise/lotwise/search/SparseVector", "values", "[D", (.ref b)), ("com/example/lotwise/lotwise/search/SparseVector", "index", "[I", (.ref d)), ("com/example/lotwise/lotwise/search/SparseVector", "count", "I", (.int (0 : Int32)))])), (b, .inl (.double, [(.double w0), (.double w1), (.double w2), (.double w3)])), (d, .inl (.int, [(.int (2 : Int32)), (.int x1), (.int x2), (.int x3)]))]) (pc' := 32) K d3_31 rfl rfl (by decide) (Nat.lt_of_sub_eq_succ rfl) rfl rfl ?_
          refine oW.aloadN (pc' := 33) K d3_32 rfl rfl rfl ?_
          refine oW.dup (pc' := 34) K d3_33 rfl rfl ?_
          refine oW.getf (i := 0) (q := 2) (pc' := 37) K (hw _ (List.mem_of_getElem? (i := 20) rfl)) d3_34 rfl rfl rfl ?_
          refine oW.iconst (v := (1 : Int32)) (pc' := 38) K d3_37 (by decide) rfl ?_
          refine oW.iadd (v := (1 : Int32)) (pc' := 39) K d3_38 (by decide) rfl ?_
          refine oW.putf (i := 0) (q := 2) (ty := .int) (ds' := [(a, .inr ("com/example/lotwise/lotwise/search/SparseVector", [("com/example/lotwise/lotwise/search/SparseVector", "values", "[D", (.ref b)), ("com/example/lotwise/lotwise/search/SparseVector", "index", "[I", (.ref d)), ("com/example/lotwise/lotwise/search/SparseVector", "count", "I", (.int (1 : Int32)))])), (b, .inl (.double, [(.double w0), (.double w1), (.double w2), (.double w3)])), (d, .inl (.int, [(.int (2 : Int32)), (.int x1), (.int x2), (.int x3)]))]) (pc' := 42) K (hw _ (List.mem_of_getElem? (i := 20) rfl)) (Or.inl (hw _ (List.mem_of_getElem? (i := 21) rfl))) (hw _ (List.mem_of_getElem? (i := 1) rfl)) (oAp_0 hw) d3_39 rfl rfl (by decide) rfl rfl rfl rfl ?_
          refine oW.dload (pc' := 44) K d3_42 rfl rfl ?_
          refine oW.dloadN (pc' := 45) K d3_44 rfl rfl ?_
          obtain ⟨v45, ev45⟩ : ∃ z : UInt64, z = FP.dadd w2 v := ⟨_, rfl⟩
          obtain ⟨Sv45, sv45, fv45⟩ := oSV_add hw2 hv hz hD hb2 ev45
          refine oW.dadd (pc' := 46) K d3_45 ev45 (oSV.nn sv45) rfl ?_
          refine oW.dstore (Ls' := #[.val (.ref a), .val (.int (2 : Int32)), .val (.double v), .second, .val (.double w2), .second, .val (.double v45), .second]) (pc' := 48) K d3_46 rfl rfl ?_
          refine oW.aloadN (pc' := 49) K d3_48 rfl rfl rfl ?_
          refine oW.getf (i := 0) (q := 0) (pc' := 52) K (hw _ (List.mem_of_getElem? (i := 10) rfl)) d3_49 rfl rfl rfl ?_
          refine oW.iloadN (pc' := 53) K d3_52 rfl rfl ?_
          refine oW.dload (pc' := 55) K d3_53 rfl rfl ?_
          refine oW.dconst0 (pc' := 56) K d3_55 rfl ?_
          obtain ⟨v56, ev56⟩ : ∃ z : Int32, z = cmpValue (FP.dcmp v45 (0 : UInt64)) .l := ⟨_, rfl⟩
          refine oW.dcmp (pc' := 57) K d3_56 ev56 rfl ?_
          refine oW.if_ne (pc' := 66) (pc3 := 60) K d3_57 (by decide) (by decide) rfl (fun c57 => ?_) (fun c57 => ?_)
          · rw [oSV_eq sv45 (oSV.of (oDK 0 (by decide +kernel) (by decide)) (by first | omega | (have oTs' := oTs; omega) | (simp only [Int32.reduceToInt, Int64.reduceToInt]; omega))) ev56] at c57
            refine oW.dload (pc' := 68) K d3_66 rfl rfl ?_
            refine oW.dastore (i := 1) (k := 2) (ds' := [(a, .inr ("com/example/lotwise/lotwise/search/SparseVector", [("com/example/lotwise/lotwise/search/SparseVector", "values", "[D", (.ref b)), ("com/example/lotwise/lotwise/search/SparseVector", "index", "[I", (.ref d)), ("com/example/lotwise/lotwise/search/SparseVector", "count", "I", (.int (1 : Int32)))])), (b, .inl (.double, [(.double w0), (.double w1), (.double v45), (.double w3)])), (d, .inl (.int, [(.int (2 : Int32)), (.int x1), (.int x2), (.int x3)]))]) (pc' := 69) K d3_68 rfl rfl (by decide) (Nat.lt_of_sub_eq_succ rfl) rfl rfl ?_
            exact oW.retV K rfl d3_69 (by decide) (by decide) ⟨rfl, w0, w1, v45, w3, (W0), (W1), (Sv45), (W3), (2 : Int32), x1, x2, x3, (1 : Int32), rfl, hw0, hw1, sv45, hw3, Or.inr ⟨by decide, rfl⟩, Or.inr ⟨by decide, rfl⟩, oFE_b rfl fv45 (fun z => c18 z.2) (Or.inr ⟨c57, rfl⟩) hb2, Or.inr ⟨by decide, rfl⟩, Or.inl ⟨⟨c18, (Or.inr (Or.inr (Or.inl ⟨rfl, c12⟩)))⟩, by decide, (Or.inl ⟨by decide, rfl, rfl, rfl⟩)⟩⟩
          · rw [oSV_eq sv45 (oSV.of (oDK 0 (by decide +kernel) (by decide)) (by first | omega | (have oTs' := oTs; omega) | (simp only [Int32.reduceToInt, Int64.reduceToInt]; omega))) ev56] at c57
            refine oW.ldc2D (pc' := 63) K (hw _ (List.mem_of_getElem? (i := 29) rfl)) d3_60 rfl ?_
            refine oW.goto (pc' := 68) K d3_63 (by decide) (by decide) ?_
            refine oW.dastore (i := 1) (k := 2) (ds' := [(a, .inr ("com/example/lotwise/lotwise/search/SparseVector", [("com/example/lotwise/lotwise/search/SparseVector", "values", "[D", (.ref b)), ("com/example/lotwise/lotwise/search/SparseVector", "index", "[I", (.ref d)), ("com/example/lotwise/lotwise/search/SparseVector", "count", "I", (.int (1 : Int32)))])), (b, .inl (.double, [(.double w0), (.double w1), (.double (118622047889322841 : UInt64)), (.double w3)])), (d, .inl (.int, [(.int (2 : Int32)), (.int x1), (.int x2), (.int x3)]))]) (pc' := 69) K d3_68 rfl rfl (by decide) (Nat.lt_of_sub_eq_succ rfl) rfl rfl ?_
            exact oW.retV K rfl d3_69 (by decide) (by decide) ⟨rfl, w0, w1, (118622047889322841 : UInt64), w3, (W0), (W1), (1000), (W3), (2 : Int32), x1, x2, x3, (1 : Int32), rfl, hw0, hw1, oSV.tiny, hw3, Or.inr ⟨by decide, rfl⟩, Or.inr ⟨by decide, rfl⟩, oFE_b rfl fv45 (fun z => c18 z.2) (Or.inl ⟨c57, rfl⟩) hb2, Or.inr ⟨by decide, rfl⟩, Or.inl ⟨⟨c18, (Or.inr (Or.inr (Or.inl ⟨rfl, c12⟩)))⟩, by decide, (Or.inl ⟨by decide, rfl, rfl, rfl⟩)⟩⟩
        · rw [oSV_eq (oSV.of hv (by omega)) (oSV.of (oDK 0 (by decide +kernel) (by decide)) (by first | omega | (have oTs' := oTs; omega) | (simp only [Int32.reduceToInt, Int64.reduceToInt]; omega))) ev17] at c18
          exact oW.retV K rfl d3_21 (by decide) (by decide) ⟨rfl, w0, w1, w2, w3, (W0), (W1), (W2), (W3), x0, x1, x2, x3, (0 : Int32), rfl, hw0, hw1, hw2, hw3, Or.inr ⟨by decide, rfl⟩, Or.inr ⟨by decide, rfl⟩, oFE_a rfl c12 c18, Or.inr ⟨by decide, rfl⟩, Or.inr ⟨oNoD c18, rfl, rfl, rfl, rfl⟩⟩
    · subst hnn
      refine oW.aloadN (pc' := 1) K d3_0 rfl rfl rfl ?_
      refine oW.getf (i := 0) (q := 0) (pc' := 4) K (hw _ (List.mem_of_getElem? (i := 10) rfl)) d3_1 rfl rfl rfl ?_
      refine oW.iloadN (pc' := 5) K d3_4 rfl rfl ?_
      refine oW.daload (i := 1) (k := 2) (pc' := 6) K d3_5 rfl rfl (by decide) rfl rfl ?_
      refine oW.dstore (Ls' := #[.val (.ref a), .val (.int (2 : Int32)), .val (.double v), .second, .val (.double w2), .second, .unset, .unset]) (pc' := 8) K d3_6 rfl rfl ?_
      refine oW.dload (pc' := 10) K d3_8 rfl rfl ?_
      refine oW.dconst0 (pc' := 11) K d3_10 rfl ?_
      obtain ⟨v11, ev11⟩ : ∃ z : Int32, z = cmpValue (FP.dcmp w2 (0 : UInt64)) .l := ⟨_, rfl⟩
      refine oW.dcmp (pc' := 12) K d3_11 ev11 rfl ?_
      refine oW.if_ne (pc' := 42) (pc3 := 15) K d3_12 (by decide) (by decide) rfl (fun c12 => ?_) (fun c12 => ?_)
      · rw [oSV_eq hw2 (oSV.of (oDK 0 (by decide +kernel) (by decide)) (by first | omega | (have oTs' := oTs; omega) | (simp only [Int32.reduceToInt, Int64.reduceToInt]; omega))) ev11] at c12
        refine oW.dload (pc' := 44) K d3_42 rfl rfl ?_
        refine oW.dloadN (pc' := 45) K d3_44 rfl rfl ?_
        obtain ⟨v45, ev45⟩ : ∃ z : UInt64, z = FP.dadd w2 v := ⟨_, rfl⟩
        obtain ⟨Sv45, sv45, fv45⟩ := oSV_add hw2 hv hz hD hb2 ev45
        refine oW.dadd (pc' := 46) K d3_45 ev45 (oSV.nn sv45) rfl ?_
        refine oW.dstore (Ls' := #[.val (.ref a), .val (.int (2 : Int32)), .val (.double v), .second, .val (.double w2), .second, .val (.double v45), .second]) (pc' := 48) K d3_46 rfl rfl ?_
        refine oW.aloadN (pc' := 49) K d3_48 rfl rfl rfl ?_
        refine oW.getf (i := 0) (q := 0) (pc' := 52) K (hw _ (List.mem_of_getElem? (i := 10) rfl)) d3_49 rfl rfl rfl ?_
        refine oW.iloadN (pc' := 53) K d3_52 rfl rfl ?_
        refine oW.dload (pc' := 55) K d3_53 rfl rfl ?_
        refine oW.dconst0 (pc' := 56) K d3_55 rfl ?_
        obtain ⟨v56, ev56⟩ : ∃ z : Int32, z = cmpValue (FP.dcmp v45 (0 : UInt64)) .l := ⟨_, rfl⟩
        refine oW.dcmp (pc' := 57) K d3_56 ev56 rfl ?_
        refine oW.if_ne (pc' := 66) (pc3 := 60) K d3_57 (by decide) (by decide) rfl (fun c57 => ?_) (fun c57 => ?_)
        · rw [oSV_eq sv45 (oSV.of (oDK 0 (by decide +kernel) (by decide)) (by first | omega | (have oTs' := oTs; omega) | (simp only [Int32.reduceToInt, Int64.reduceToInt]; omega))) ev56] at c57
          refine oW.dload (pc' := 68) K d3_66 rfl rfl ?_
          refine oW.dastore (i := 1) (k := 2) (ds' := [(a, .inr ("com/example/lotwise/lotwise/search/SparseVector", [("com/example/lotwise/lotwise/search/SparseVector", "values", "[D", (.ref b)), ("com/example/lotwise/lotwise/search/SparseVector", "index", "[I", (.ref d)), ("com/example/lotwise/lotwise/search/SparseVector", "count", "I", (.int (1 : Int32)))])), (b, .inl (.double, [(.double w0), (.double w1), (.double v45), (.double w3)])), (d, .inl (.int, [(.int x0), (.int x1), (.int x2), (.int x3)]))]) (pc' := 69) K d3_68 rfl rfl (by decide) (Nat.lt_of_sub_eq_succ rfl) rfl rfl ?_
          exact oW.retV K rfl d3_69 (by decide) (by decide) ⟨rfl, w0, w1, v45, w3, (W0), (W1), (Sv45), (W3), x0, x1, x2, x3, (1 : Int32), rfl, hw0, hw1, sv45, hw3, Or.inr ⟨by decide, rfl⟩, Or.inr ⟨by decide, rfl⟩, oFE_b rfl fv45 (fun z => c12 z.1) (Or.inr ⟨c57, rfl⟩) hb2, Or.inr ⟨by decide, rfl⟩, Or.inr ⟨oNoW2 rfl c12, rfl, rfl, rfl, rfl⟩⟩
        · rw [oSV_eq sv45 (oSV.of (oDK 0 (by decide +kernel) (by decide)) (by first | omega | (have oTs' := oTs; omega) | (simp only [Int32.reduceToInt, Int64.reduceToInt]; omega))) ev56] at c57
          refine oW.ldc2D (pc' := 63) K (hw _ (List.mem_of_getElem? (i := 29) rfl)) d3_60 rfl ?_
          refine oW.goto (pc' := 68) K d3_63 (by decide) (by decide) ?_
          refine oW.dastore (i := 1) (k := 2) (ds' := [(a, .inr ("com/example/lotwise/lotwise/search/SparseVector", [("com/example/lotwise/lotwise/search/SparseVector", "values", "[D", (.ref b)), ("com/example/lotwise/lotwise/search/SparseVector", "index", "[I", (.ref d)), ("com/example/lotwise/lotwise/search/SparseVector", "count", "I", (.int (1 : Int32)))])), (b, .inl (.double, [(.double w0), (.double w1), (.double (118622047889322841 : UInt64)), (.double w3)])), (d, .inl (.int, [(.int x0), (.int x1), (.int x2), (.int x3)]))]) (pc' := 69) K d3_68 rfl rfl (by decide) (Nat.lt_of_sub_eq_succ rfl) rfl rfl ?_
          exact oW.retV K rfl d3_69 (by decide) (by decide) ⟨rfl, w0, w1, (118622047889322841 : UInt64), w3, (W0), (W1), (1000), (W3), x0, x1, x2, x3, (1 : Int32), rfl, hw0, hw1, oSV.tiny, hw3, Or.inr ⟨by decide, rfl⟩, Or.inr ⟨by decide, rfl⟩, oFE_b rfl fv45 (fun z => c12 z.1) (Or.inl ⟨c57, rfl⟩) hb2, Or.inr ⟨by decide, rfl⟩, Or.inr ⟨oNoW2 rfl c12, rfl, rfl, rfl, rfl⟩⟩
      · rw [oSV_eq hw2 (oSV.of (oDK 0 (by decide +kernel) (by decide)) (by first | omega | (have oTs' := oTs; omega) | (simp only [Int32.reduceToInt, Int64.reduceToInt]; omega))) ev11] at c12
        refine oW.dloadN (pc' := 16) K d3_15 rfl rfl ?_
        refine oW.dconst0 (pc' := 17) K d3_16 rfl ?_
        obtain ⟨v17, ev17⟩ : ∃ z : Int32, z = cmpValue (FP.dcmp v (0 : UInt64)) .l := ⟨_, rfl⟩
        refine oW.dcmp (pc' := 18) K d3_17 ev17 rfl ?_
        refine oW.if_ne (pc' := 22) (pc3 := 21) K d3_18 (by decide) (by decide) rfl (fun c18 => ?_) (fun c18 => ?_)
        · rw [oSV_eq (oSV.of hv (by omega)) (oSV.of (oDK 0 (by decide +kernel) (by decide)) (by first | omega | (have oTs' := oTs; omega) | (simp only [Int32.reduceToInt, Int64.reduceToInt]; omega))) ev17] at c18
          refine oW.aloadN (pc' := 23) K d3_22 rfl rfl rfl ?_
          refine oW.getf (i := 0) (q := 1) (pc' := 26) K (hw _ (List.mem_of_getElem? (i := 13) rfl)) d3_23 rfl rfl rfl ?_
          refine oW.aloadN (pc' := 27) K d3_26 rfl rfl rfl ?_
          refine oW.getf (i := 0) (q := 2) (pc' := 30) K (hw _ (List.mem_of_getElem? (i := 20) rfl)) d3_27 rfl rfl rfl ?_
          refine oW.iloadN (pc' := 31) K d3_30 rfl rfl ?_
          refine oW.iastore (i := 2) (k := 1) (ds' := [(a, .inr ("com/example/lotwise/lotwise/search/SparseVector", [("com/example/lotwise/lotwise/search/SparseVector", "values", "[D", (.ref b)), ("com/example/lotwise/lotwise/search/SparseVector", "index", "[I", (.ref d)), ("com/example/lotwise/lotwise/search/SparseVector", "count", "I", (.int (1 : Int32)))])), (b, .inl (.double, [(.double w0), (.double w1), (.double w2), (.double w3)])), (d, .inl (.int, [(.int x0), (.int (2 : Int32)), (.int x2), (.int x3)]))]) (pc' := 32) K d3_31 rfl rfl (by decide) (Nat.lt_of_sub_eq_succ rfl) rfl rfl ?_
          refine oW.aloadN (pc' := 33) K d3_32 rfl rfl rfl ?_
          refine oW.dup (pc' := 34) K d3_33 rfl rfl ?_
          refine oW.getf (i := 0) (q := 2) (pc' := 37) K (hw _ (List.mem_of_getElem? (i := 20) rfl)) d3_34 rfl rfl rfl ?_
          refine oW.iconst (v := (1 : Int32)) (pc' := 38) K d3_37 (by decide) rfl ?_
          refine oW.iadd (v := (2 : Int32)) (pc' := 39) K d3_38 (by decide) rfl ?_
          refine oW.putf (i := 0) (q := 2) (ty := .int) (ds' := [(a, .inr ("com/example/lotwise/lotwise/search/SparseVector", [("com/example/lotwise/lotwise/search/SparseVector", "values", "[D", (.ref b)), ("com/example/lotwise/lotwise/search/SparseVector", "index", "[I", (.ref d)), ("com/example/lotwise/lotwise/search/SparseVector", "count", "I", (.int (2 : Int32)))])), (b, .inl (.double, [(.double w0), (.double w1), (.double w2), (.double w3)])), (d, .inl (.int, [(.int x0), (.int (2 : Int32)), (.int x2), (.int x3)]))]) (pc' := 42) K (hw _ (List.mem_of_getElem? (i := 20) rfl)) (Or.inl (hw _ (List.mem_of_getElem? (i := 21) rfl))) (hw _ (List.mem_of_getElem? (i := 1) rfl)) (oAp_0 hw) d3_39 rfl rfl (by decide) rfl rfl rfl rfl ?_
          refine oW.dload (pc' := 44) K d3_42 rfl rfl ?_
          refine oW.dloadN (pc' := 45) K d3_44 rfl rfl ?_
          obtain ⟨v45, ev45⟩ : ∃ z : UInt64, z = FP.dadd w2 v := ⟨_, rfl⟩
          obtain ⟨Sv45, sv45, fv45⟩ := oSV_add hw2 hv hz hD hb2 ev45
          refine oW.dadd (pc' := 46) K d3_45 ev45 (oSV.nn sv45) rfl ?_
          refine oW.dstore (Ls' := #[.val (.ref a), .val (.int (2 : Int32)), .val (.double v), .second, .val (.double w2), .second, .val (.double v45), .second]) (pc' := 48) K d3_46 rfl rfl ?_
          refine oW.aloadN (pc' := 49) K d3_48 rfl rfl rfl ?_
          refine oW.getf (i := 0) (q := 0) (pc' := 52) K (hw _ (List.mem_of_getElem? (i := 10) rfl)) d3_49 rfl rfl rfl ?_
          refine oW.iloadN (pc' := 53) K d3_52 rfl rfl ?_
          refine oW.dload (pc' := 55) K d3_53 rfl rfl ?_
          refine oW.dconst0 (pc' := 56) K d3_55 rfl ?_
          obtain ⟨v56, ev56⟩ : ∃ z : Int32, z = cmpValue (FP.dcmp v45 (0 : UInt64)) .l := ⟨_, rfl⟩
          refine oW.dcmp (pc' := 57) K d3_56 ev56 rfl ?_
          refine oW.if_ne (pc' := 66) (pc3 := 60) K d3_57 (by decide) (by decide) rfl (fun c57 => ?_) (fun c57 => ?_)
          · rw [oSV_eq sv45 (oSV.of (oDK 0 (by decide +kernel) (by decide)) (by first | omega | (have oTs' := oTs; omega) | (simp only [Int32.reduceToInt, Int64.reduceToInt]; omega))) ev56] at c57
            refine oW.dload (pc' := 68) K d3_66 rfl rfl ?_
            refine oW.dastore (i := 1) (k := 2) (ds' := [(a, .inr ("com/example/lotwise/lotwise/search/SparseVector", [("com/example/lotwise/lotwise/search/SparseVector", "values", "[D", (.ref b)), ("com/example/lotwise/lotwise/search/SparseVector", "index", "[I", (.ref d)), ("com/example/lotwise/lotwise/search/SparseVector", "count", "I", (.int (2 : Int32)))])), (b, .inl (.double, [(.double w0), (.double w1), (.double v45), (.double w3)])), (d, .inl (.int, [(.int x0), (.int (2 : Int32)), (.int x2), (.int x3)]))]) (pc' := 69) K d3_68 rfl rfl (by decide) (Nat.lt_of_sub_eq_succ rfl) rfl rfl ?_
            exact oW.retV K rfl d3_69 (by decide) (by decide) ⟨rfl, w0, w1, v45, w3, (W0), (W1), (Sv45), (W3), x0, (2 : Int32), x2, x3, (2 : Int32), rfl, hw0, hw1, sv45, hw3, Or.inr ⟨by decide, rfl⟩, Or.inr ⟨by decide, rfl⟩, oFE_b rfl fv45 (fun z => c18 z.2) (Or.inr ⟨c57, rfl⟩) hb2, Or.inr ⟨by decide, rfl⟩, Or.inl ⟨⟨c18, (Or.inr (Or.inr (Or.inl ⟨rfl, c12⟩)))⟩, by decide, (Or.inr (Or.inl ⟨by decide, rfl, rfl, rfl⟩))⟩⟩
          · rw [oSV_eq sv45 (oSV.of (oDK 0 (by decide +kernel) (by decide)) (by first | omega | (have oTs' := oTs; omega) | (simp only [Int32.reduceToInt, Int64.reduceToInt]; omega))) ev56] at c57
            refine oW.ldc2D (pc' := 63) K (hw _ (List.mem_of_getElem? (i := 29) rfl)) d3_60 rfl ?_
            refine oW.goto (pc' := 68) K d3_63 (by decide) (by decide) ?_
            refine oW.dastore (i := 1) (k := 2) (ds' := [(a, .inr ("com/example/lotwise/lotwise/search/SparseVector", [("com/example/lotwise/lotwise/search/SparseVector", "values", "[D", (.ref b)), ("com/example/lotwise/lotwise/search/SparseVector", "index", "[I", (.ref d)), ("com/example/lotwise/lotwise/search/SparseVector", "count", "I", (.int (2 : Int32)))])), (b, .inl (.double, [(.double w0), (.double w1), (.double (118622047889322841 : UInt64)), (.double w3)])), (d, .inl (.int, [(.int x0), (.int (2 : Int32)), (.int x2), (.int x3)]))]) (pc' := 69) K d3_68 rfl rfl (by decide) (Nat.lt_of_sub_eq_succ rfl) rfl rfl ?_
            exact oW.retV K rfl d3_69 (by decide) (by decide) ⟨rfl, w0, w1, (118622047889322841 : UInt64), w3, (W0), (W1), (1000), (W3), x0, (2 : Int32), x2, x3, (2 : Int32), rfl, hw0, hw1, oSV.tiny, hw3, Or.inr ⟨by decide, rfl⟩, Or.inr ⟨by decide, rfl⟩, oFE_b rfl fv45 (fun z => c18 z.2) (Or.inl ⟨c57, rfl⟩) hb2, Or.inr ⟨by decide, rfl⟩, Or.inl ⟨⟨c18, (Or.inr (Or.inr (Or.inl ⟨rfl, c12⟩)))⟩, by decide, (Or.inr (Or.inl ⟨by decide, rfl, rfl, rfl⟩))⟩⟩
        · rw [oSV_eq (oSV.of hv (by omega)) (oSV.of (oDK 0 (by decide +kernel) (by decide)) (by first | omega | (have oTs' := oTs; omega) | (simp only [Int32.reduceToInt, Int64.reduceToInt]; omega))) ev17] at c18
          exact oW.retV K rfl d3_21 (by decide) (by decide) ⟨rfl, w0, w1, w2, w3, (W0), (W1), (W2), (W3), x0, x1, x2, x3, (1 : Int32), rfl, hw0, hw1, hw2, hw3, Or.inr ⟨by decide, rfl⟩, Or.inr ⟨by decide, rfl⟩, oFE_a rfl c12 c18, Or.inr ⟨by decide, rfl⟩, Or.inr ⟨oNoD c18, rfl, rfl, rfl, rfl⟩⟩
    · subst hnn
      refine oW.aloadN (pc' := 1) K d3_0 rfl rfl rfl ?_
      refine oW.getf (i := 0) (q := 0) (pc' := 4) K (hw _ (List.mem_of_getElem? (i := 10) rfl)) d3_1 rfl rfl rfl ?_
      refine oW.iloadN (pc' := 5) K d3_4 rfl rfl ?_
      refine oW.daload (i := 1) (k := 2) (pc' := 6) K d3_5 rfl rfl (by decide) rfl rfl ?_
      refine oW.dstore (Ls' := #[.val (.ref a), .val (.int (2 : Int32)), .val (.double v), .second, .val (.double w2), .second, .unset, .unset]) (pc' := 8) K d3_6 rfl rfl ?_
      refine oW.dload (pc' := 10) K d3_8 rfl rfl ?_
      refine oW.dconst0 (pc' := 11) K d3_10 rfl ?_
      obtain ⟨v11, ev11⟩ : ∃ z : Int32, z = cmpValue (FP.dcmp w2 (0 : UInt64)) .l := ⟨_, rfl⟩
      refine oW.dcmp (pc' := 12) K d3_11 ev11 rfl ?_
      refine oW.if_ne (pc' := 42) (pc3 := 15) K d3_12 (by decide) (by decide) rfl (fun c12 => ?_) (fun c12 => ?_)
      · rw [oSV_eq hw2 (oSV.of (oDK 0 (by decide +kernel) (by decide)) (by first | omega | (have oTs' := oTs; omega) | (simp only [Int32.reduceToInt, Int64.reduceToInt]; omega))) ev11] at c12
        refine oW.dload (pc' := 44) K d3_42 rfl rfl ?_
        refine oW.dloadN (pc' := 45) K d3_44 rfl rfl ?_
        obtain ⟨v45, ev45⟩ : ∃ z : UInt64, z = FP.dadd w2 v := ⟨_, rfl⟩
        obtain ⟨Sv45, sv45, fv45⟩ := oSV_add hw2 hv hz hD hb2 ev45
        refine oW.dadd (pc' := 46) K d3_45 ev45 (oSV.nn sv45) rfl ?_
        refine oW.dstore (Ls' := #[.val (.ref a), .val (.int (2 : Int32)), .val (.double v), .second, .val (.double w2), .second, .val (.double v45), .second]) (pc' := 48) K d3_46 rfl rfl ?_
        refine oW.aloadN (pc' := 49) K d3_48 rfl rfl rfl ?_
        refine oW.getf (i := 0) (q := 0) (pc' := 52) K (hw _ (List.mem_of_getElem? (i := 10) rfl)) d3_49 rfl rfl rfl ?_
        refine oW.iloadN (pc' := 53) K d3_52 rfl rfl ?_
        refine oW.dload (pc' := 55) K d3_53 rfl rfl ?_
        refine oW.dconst0 (pc' := 56) K d3_55 rfl ?_
        obtain ⟨v56, ev56⟩ : ∃ z : Int32, z = cmpValue (FP.dcmp v45 (0 : UInt64)) .l := ⟨_, rfl⟩
        refine oW.dcmp (pc' := 57) K d3_56 ev56 rfl ?_
        refine oW.if_ne (pc' := 66) (pc3 := 60) K d3_57 (by decide) (by decide) rfl (fun c57 => ?_) (fun c57 => ?_)
        · rw [oSV_eq sv45 (oSV.of (oDK 0 (by decide +kernel) (by decide)) (by first | omega | (have oTs' := oTs; omega) | (simp only [Int32.reduceToInt, Int64.reduceToInt]; omega))) ev56] at c57
          refine oW.dload (pc' := 68) K d3_66 rfl rfl ?_
          refine oW.dastore (i := 1) (k := 2) (ds' := [(a, .inr ("com/example/lotwise/lotwise/search/SparseVector", [("com/example/lotwise/lotwise/search/SparseVector", "values", "[D", (.ref b)), ("com/example/lotwise/lotwise/search/SparseVector", "index", "[I", (.ref d)), ("com/example/lotwise/lotwise/search/SparseVector", "count", "I", (.int (2 : Int32)))])), (b, .inl (.double, [(.double w0), (.double w1), (.double v45), (.double w3)])), (d, .inl (.int, [(.int x0), (.int x1), (.int x2), (.int x3)]))]) (pc' := 69) K d3_68 rfl rfl (by decide) (Nat.lt_of_sub_eq_succ rfl) rfl rfl ?_
          exact oW.retV K rfl d3_69 (by decide) (by decide) ⟨rfl, w0, w1, v45, w3, (W0), (W1), (Sv45), (W3), x0, x1, x2, x3, (2 : Int32), rfl, hw0, hw1, sv45, hw3, Or.inr ⟨by decide, rfl⟩, Or.inr ⟨by decide, rfl⟩, oFE_b rfl fv45 (fun z => c12 z.1) (Or.inr ⟨c57, rfl⟩) hb2, Or.inr ⟨by decide, rfl⟩, Or.inr ⟨oNoW2 rfl c12, rfl, rfl, rfl, rfl⟩⟩
        · rw [oSV_eq sv45 (oSV.of (oDK 0 (by decide +kernel) (by decide)) (by first | omega | (have oTs' := oTs; omega) | (simp only [Int32.reduceToInt, Int64.reduceToInt]; omega))) ev56] at c57
          refine oW.ldc2D (pc' := 63) K (hw _ (List.mem_of_getElem? (i := 29) rfl)) d3_60 rfl ?_
          refine oW.goto (pc' := 68) K d3_63 (by decide) (by decide) ?_
          refine oW.dastore (i := 1) (k := 2) (ds' := [(a, .inr ("com/example/lotwise/lotwise/search/SparseVector", [("com/example/lotwise/lotwise/search/SparseVector", "values", "[D", (.ref b)), ("com/example/lotwise/lotwise/search/SparseVector", "index", "[I", (.ref d)), ("com/example/lotwise/lotwise/search/SparseVector", "count", "I", (.int (2 : Int32)))])), (b, .inl (.double, [(.double w0), (.double w1), (.double (118622047889322841 : UInt64)), (.double w3)])), (d, .inl (.int, [(.int x0), (.int x1), (.int x2), (.int x3)]))]) (pc' := 69) K d3_68 rfl rfl (by decide) (Nat.lt_of_sub_eq_succ rfl) rfl rfl ?_
          exact oW.retV K rfl d3_69 (by decide) (by decide) ⟨rfl, w0, w1, (118622047889322841 : UInt64), w3, (W0), (W1), (1000), (W3), x0, x1, x2, x3, (2 : Int32), rfl, hw0, hw1, oSV.tiny, hw3, Or.inr ⟨by decide, rfl⟩, Or.inr ⟨by decide, rfl⟩, oFE_b rfl fv45 (fun z => c12 z.1) (Or.inl ⟨c57, rfl⟩) hb2, Or.inr ⟨by decide, rfl⟩, Or.inr ⟨oNoW2 rfl c12, rfl, rfl, rfl, rfl⟩⟩
      · rw [oSV_eq hw2 (oSV.of (oDK 0 (by decide +kernel) (by decide)) (by first | omega | (have oTs' := oTs; omega) | (simp only [Int32.reduceToInt, Int64.reduceToInt]; omega))) ev11] at c12
        refine oW.dloadN (pc' := 16) K d3_15 rfl rfl ?_
        refine oW.dconst0 (pc' := 17) K d3_16 rfl ?_
        obtain ⟨v17, ev17⟩ : ∃ z : Int32, z = cmpValue (FP.dcmp v (0 : UInt64)) .l := ⟨_, rfl⟩
        refine oW.dcmp (pc' := 18) K d3_17 ev17 rfl ?_
        refine oW.if_ne (pc' := 22) (pc3 := 21) K d3_18 (by decide) (by decide) rfl (fun c18 => ?_) (fun c18 => ?_)
        · rw [oSV_eq (oSV.of hv (by omega)) (oSV.of (oDK 0 (by decide +kernel) (by decide)) (by first | omega | (have oTs' := oTs; omega) | (simp only [Int32.reduceToInt, Int64.reduceToInt]; omega))) ev17] at c18
          refine oW.aloadN (pc' := 23) K d3_22 rfl rfl rfl ?_
          refine oW.getf (i := 0) (q := 1) (pc' := 26) K (hw _ (List.mem_of_getElem? (i := 13) rfl)) d3_23 rfl rfl rfl ?_
          refine oW.aloadN (pc' := 27) K d3_26 rfl rfl rfl ?_
          refine oW.getf (i := 0) (q := 2) (pc' := 30) K (hw _ (List.mem_of_getElem? (i := 20) rfl)) d3_27 rfl rfl rfl ?_
          refine oW.iloadN (pc' := 31) K d3_30 rfl rfl ?_
          refine oW.iastore (i := 2) (k := 2) (ds' := [(a, .inr ("com/example/lotwise/lotwise/search/SparseVector", [("com/example/lotwise/lotwise/search/SparseVector", "values", "[D", (.ref b)), ("com/example/lotwise/lotwise/search/SparseVector", "index", "[I", (.ref d)), ("com/example/lotwise/lotwise/search/SparseVector", "count", "I", (.int (2 : Int32)))])), (b, .inl (.double, [(.double w0), (.double w1), (.double w2), (.double w3)])), (d, .inl (.int, [(.int x0), (.int x1), (.int (2 : Int32)), (.int x3)]))]) (pc' := 32) K d3_31 rfl rfl (by decide) (Nat.lt_of_sub_eq_succ rfl) rfl rfl ?_
          refine oW.aloadN (pc' := 33) K d3_32 rfl rfl rfl ?_
          refine oW.dup (pc' := 34) K d3_33 rfl rfl ?_
          refine oW.getf (i := 0) (q := 2) (pc' := 37) K (hw _ (List.mem_of_getElem? (i := 20) rfl)) d3_34 rfl rfl rfl ?_
          refine oW.iconst (v := (1 : Int32)) (pc' := 38) K d3_37 (by decide) rfl ?_
          refine oW.iadd (v := (3 : Int32)) (pc' := 39) K d3_38 (by decide) rfl ?_
          refine oW.putf (i := 0) (q := 2) (ty := .int) (ds' := [(a, .inr ("com/example/lotwise/lotwise/search/SparseVector", [("com/example/lotwise/lotwise/search/SparseVector", "values", "[D", (.ref b)), ("com/example/lotwise/lotwise/search/SparseVector", "index", "[I", (.ref d)), ("com/example/lotwise/lotwise/search/SparseVector", "count", "I", (.int (3 : Int32)))])), (b, .inl (.double, [(.double w0), (.double w1), (.double w2), (.double w3)])), (d, .inl (.int, [(.int x0), (.int x1), (.int (2 : Int32)), (.int x3)]))]) (pc' := 42) K (hw _ (List.mem_of_getElem? (i := 20) rfl)) (Or.inl (hw _ (List.mem_of_getElem? (i := 21) rfl))) (hw _ (List.mem_of_getElem? (i := 1) rfl)) (oAp_0 hw) d3_39 rfl rfl (by decide) rfl rfl rfl rfl ?_
          refine oW.dload (pc' := 44) K d3_42 rfl rfl ?_
          refine oW.dloadN (pc' := 45) K d3_44 rfl rfl ?_
          obtain ⟨v45, ev45⟩ : ∃ z : UInt64, z = FP.dadd w2 v := ⟨_, rfl⟩
          obtain ⟨Sv45, sv45, fv45⟩ := oSV_add hw2 hv hz hD hb2 ev45
          refine oW.dadd (pc' := 46) K d3_45 ev45 (oSV.nn sv45) rfl ?_
          refine oW.dstore (Ls' := #[.val (.ref a), .val (.int (2 : Int32)), .val (.double v), .second, .val (.double w2), .second, .val (.double v45), .second]) (pc' := 48) K d3_46 rfl rfl ?_
          refine oW.aloadN (pc' := 49) K d3_48 rfl rfl rfl ?_
          refine oW.getf (i := 0) (q := 0) (pc' := 52) K (hw _ (List.mem_of_getElem? (i := 10) rfl)) d3_49 rfl rfl rfl ?_
          refine oW.iloadN (pc' := 53) K d3_52 rfl rfl ?_
          refine oW.dload (pc' := 55) K d3_53 rfl rfl ?_
          refine oW.dconst0 (pc' := 56) K d3_55 rfl ?_
          obtain ⟨v56, ev56⟩ : ∃ z : Int32, z = cmpValue (FP.dcmp v45 (0 : UInt64)) .l := ⟨_, rfl⟩
          refine oW.dcmp (pc' := 57) K d3_56 ev56 rfl ?_
          refine oW.if_ne (pc' := 66) (pc3 := 60) K d3_57 (by decide) (by decide) rfl (fun c57 => ?_) (fun c57 => ?_)
          · rw [oSV_eq sv45 (oSV.of (oDK 0 (by decide +kernel) (by decide)) (by first | omega | (have oTs' := oTs; omega) | (simp only [Int32.reduceToInt, Int64.reduceToInt]; omega))) ev56] at c57
            refine oW.dload (pc' := 68) K d3_66 rfl rfl ?_
            refine oW.dastore (i := 1) (k := 2) (ds' := [(a, .inr ("com/example/lotwise/lotwise/search/SparseVector", [("com/example/lotwise/lotwise/search/SparseVector", "values", "[D", (.ref b)), ("com/example/lotwise/lotwise/search/SparseVector", "index", "[I", (.ref d)), ("com/example/lotwise/lotwise/search/SparseVector", "count", "I", (.int (3 : Int32)))])), (b, .inl (.double, [(.double w0), (.double w1), (.double v45), (.double w3)])), (d, .inl (.int, [(.int x0), (.int x1), (.int (2 : Int32)), (.int x3)]))]) (pc' := 69) K d3_68 rfl rfl (by decide) (Nat.lt_of_sub_eq_succ rfl) rfl rfl ?_
            exact oW.retV K rfl d3_69 (by decide) (by decide) ⟨rfl, w0, w1, v45, w3, (W0), (W1), (Sv45), (W3), x0, x1, (2 : Int32), x3, (3 : Int32), rfl, hw0, hw1, sv45, hw3, Or.inr ⟨by decide, rfl⟩, Or.inr ⟨by decide, rfl⟩, oFE_b rfl fv45 (fun z => c18 z.2) (Or.inr ⟨c57, rfl⟩) hb2, Or.inr ⟨by decide, rfl⟩, Or.inl ⟨⟨c18, (Or.inr (Or.inr (Or.inl ⟨rfl, c12⟩)))⟩, by decide, (Or.inr (Or.inr (⟨by decide, rfl, rfl, rfl⟩)))⟩⟩
          · rw [oSV_eq sv45 (oSV.of (oDK 0 (by decide +kernel) (by decide)) (by first | omega | (have oTs' := oTs; omega) | (simp only [Int32.reduceToInt, Int64.reduceToInt]; omega))) ev56] at c57
            refine oW.ldc2D (pc' := 63) K (hw _ (List.mem_of_getElem? (i := 29) rfl)) d3_60 rfl ?_
            refine oW.goto (pc' := 68) K d3_63 (by decide) (by decide) ?_
            refine oW.dastore (i := 1) (k := 2) (ds' := [(a, .inr ("com/example/lotwise/lotwise/search/SparseVector", [("com/example/lotwise/lotwise/search/SparseVector", "values", "[D", (.ref b)), ("com/example/lotwise/lotwise/search/SparseVector", "index", "[I", (.ref d)), ("com/example/lotwise/lotwise/search/SparseVector", "count", "I", (.int (3 : Int32)))])), (b, .inl (.double, [(.double w0), (.double w1), (.double (118622047889322841 : UInt64)), (.double w3)])), (d, .inl (.int, [(.int x0), (.int x1), (.int (2 : Int32)), (.int x3)]))]) (pc' := 69) K d3_68 rfl rfl (by decide) (Nat.lt_of_sub_eq_succ rfl) rfl rfl ?_
            exact oW.retV K rfl d3_69 (by decide) (by decide) ⟨rfl, w0, w1, (118622047889322841 : UInt64), w3, (W0), (W1), (1000), (W3), x0, x1, (2 : Int32), x3, (3 : Int32), rfl, hw0, hw1, oSV.tiny, hw3, Or.inr ⟨by decide, rfl⟩, Or.inr ⟨by decide, rfl⟩, oFE_b rfl fv45 (fun z => c18 z.2) (Or.inl ⟨c57, rfl⟩) hb2, Or.inr ⟨by decide, rfl⟩, Or.inl ⟨⟨c18, (Or.inr (Or.inr (Or.inl ⟨rfl, c12⟩)))⟩, by decide, (Or.inr (Or.inr (⟨by decide, rfl, rfl, rfl⟩)))⟩⟩
        · rw [oSV_eq (oSV.of hv (by omega)) (oSV.of (oDK 0 (by decide +kernel) (by decide)) (by first | omega | (have oTs' := oTs; omega) | (simp only [Int32.reduceToInt, Int64.reduceToInt]; omega))) ev17] at c18
          exact oW.retV K rfl d3_21 (by decide) (by decide) ⟨rfl, w0, w1, w2, w3, (W0), (W1), (W2), (W3), x0, x1, x2, x3, (2 : Int32), rfl, hw0, hw1, hw2, hw3, Or.inr ⟨by decide, rfl⟩, Or.inr ⟨by decide, rfl⟩, oFE_a rfl c12 c18, Or.inr ⟨by decide, rfl⟩, Or.inr ⟨oNoD c18, rfl, rfl, rfl, rfl⟩⟩
  · subst hpi
    rcases hn' with hnn | hnn | hnn
    · subst hnn
      refine oW.aloadN (pc' := 1) K d3_0 rfl rfl rfl ?_
      refine oW.getf (i := 0) (q := 0) (pc' := 4) K (hw _ (List.mem_of_getElem? (i := 10) rfl)) d3_1 rfl rfl rfl ?_
      refine oW.iloadN (pc' := 5) K d3_4 rfl rfl ?_
      refine oW.daload (i := 1) (k := 3) (pc' := 6) K d3_5 rfl rfl (by decide) rfl rfl ?_
      refine oW.dstore (Ls' := #[.val (.ref a), .val (.int (3 : Int32)), .val (.double v), .second, .val (.double w3), .second, .unset, .unset]) (pc' := 8) K d3_6 rfl rfl ?_
      refine oW.dload (pc' := 10) K d3_8 rfl rfl ?_
      refine oW.dconst0 (pc' := 11) K d3_10 rfl ?_
      obtain ⟨v11, ev11⟩ : ∃ z : Int32, z = cmpValue (FP.dcmp w3 (0 : UInt64)) .l := ⟨_, rfl⟩
      refine oW.dcmp (pc' := 12) K d3_11 ev11 rfl ?_
      refine oW.if_ne (pc' := 42) (pc3 := 15) K d3_12 (by decide) (by decide) rfl (fun c12 => ?_) (fun c12 => ?_)
      · rw [oSV_eq hw3 (oSV.of (oDK 0 (by decide +kernel) (by decide)) (by first | omega | (have oTs' := oTs; omega) | (simp only [Int32.reduceToInt, Int64.reduceToInt]; omega))) ev11] at c12
        refine oW.dload (pc' := 44) K d3_42 rfl rfl ?_
        refine oW.dloadN (pc' := 45) K d3_44 rfl rfl ?_
        obtain ⟨v45, ev45⟩ : ∃ z : UInt64, z = FP.dadd w3 v := ⟨_, rfl⟩
        obtain ⟨Sv45, sv45, fv45⟩ := oSV_add hw3 hv hz hD hb3 ev45
        refine oW.dadd (pc' := 46) K d3_45 ev45 (oSV.nn sv45) rfl ?_
        refine oW.dstore (Ls' := #[.val (.ref a), .val (.int (3 : Int32)), .val (.double v), .second, .val (.double w3), .second, .val (.double v45), .second]) (pc' := 48) K d3_46 rfl rfl ?_
        refine oW.aloadN (pc' := 49) K d3_48 rfl rfl rfl ?_
        refine oW.getf (i := 0) (q := 0) (pc' := 52) K (hw _ (List.mem_of_getElem? (i := 10) rfl)) d3_49 rfl rfl rfl ?_
        refine oW.iloadN (pc' := 53) K d3_52 rfl rfl ?_
        refine oW.dload (pc' := 55) K d3_53 rfl rfl ?_
        refine oW.dconst0 (pc' := 56) K d3_55 rfl ?_
        obtain ⟨v56, ev56⟩ : ∃ z : Int32, z = cmpValue (FP.dcmp v45 (0 : UInt64)) .l := ⟨_, rfl⟩
        refine oW.dcmp (pc' := 57) K d3_56 ev56 rfl ?_
        refine oW.if_ne (pc' := 66) (pc3 := 60) K d3_57 (by decide) (by decide) rfl (fun c57 => ?_) (fun c57 => ?_)
        · rw [oSV_eq sv45 (oSV.of (oDK 0 (by decide +kernel) (by decide)) (by first | omega | (have oTs' := oTs; omega) | (simp only [Int32.reduceToInt, Int64.reduceToInt]; omega))) ev56] at c57
          refine oW.dload (pc' := 68) K d3_66 rfl rfl ?_
          refine oW.dastore (i := 1) (k := 3) (ds' := [(a, .inr ("com/example/lotwise/lotwise/search/SparseVector", [("com/example/lotwise/lotwise/search/SparseVector", "values", "[D", (.ref b)), ("com/example/lotwise/lotwise/search/SparseVector", "index", "[I", (.ref d)), ("com/example/lotwise/lotwise/search/SparseVector", "count", "I", (.int (0 : Int32)))])), (b, .inl (.double, [(.double w0), (.double w1), (.double w2), (.double v45)])), (d, .inl (.int, [(.int x0), (.int x1), (.int x2), (.int x3)]))]) (pc' := 69) K d3_68 rfl rfl (by decide) (Nat.lt_of_sub_eq_succ rfl) rfl rfl ?_
          exact oW.retV K rfl d3_69 (by decide) (by decide) ⟨rfl, w0, w1, w2, v45, (W0), (W1), (W2), (Sv45), x0, x1, x2, x3, (0 : Int32), rfl, hw0, hw1, hw2, sv45, Or.inr ⟨by decide, rfl⟩, Or.inr ⟨by decide, rfl⟩, Or.inr ⟨by decide, rfl⟩, oFE_b rfl fv45 (fun z => c12 z.1) (Or.inr ⟨c57, rfl⟩) hb3, Or.inr ⟨oNoW3 rfl c12, rfl, rfl, rfl, rfl⟩⟩
        · rw [oSV_eq sv45 (oSV.of (oDK 0 (by decide +kernel) (by decide)) (by first | omega | (have oTs' := oTs; omega) | (simp only [Int32.reduceToInt, Int64.reduceToInt]; omega))) ev56] at c57
          refine oW.ldc2D (pc' := 63) K (hw _ (List.mem_of_getElem? (i := 29) rfl)) d3_60 rfl ?_
          refine oW.goto (pc' := 68) K d3_63 (by decide) (by decide) ?_
          refine oW.dastore (i := 1) (k := 3) (ds' := [(a, .inr ("com/example/lotwise/lotwise/search/SparseVector", [("com/example/lotwise/lotwise/search/SparseVector", "values", "[D", (.ref b)), ("com/example/lotwise/lotwise/search/SparseVector", "index", "[I", (.ref d)), ("com/example/lotwise/lotwise/search/SparseVector", "count", "I", (.int (0 : Int32)))])), (b, .inl (.double, [(.double w0), (.double w1), (.double w2), (.double (118622047889322841 : UInt64))])), (d, .inl (.int, [(.int x0), (.int x1), (.int x2), (.int x3)]))]) (pc' := 69) K d3_68 rfl rfl (by decide) (Nat.lt_of_sub_eq_succ rfl) rfl rfl ?_
          exact oW.retV K rfl d3_69 (by decide) (by decide) ⟨rfl, w0, w1, w2, (118622047889322841 : UInt64), (W0), (W1), (W2), (1000), x0, x1, x2, x3, (0 : Int32), rfl, hw0, hw1, hw2, oSV.tiny, Or.inr ⟨by decide, rfl⟩, Or.inr ⟨by decide, rfl⟩, Or.inr ⟨by decide, rfl⟩, oFE_b rfl fv45 (fun z => c12 z.1) (Or.inl ⟨c57, rfl⟩) hb3, Or.inr ⟨oNoW3 rfl c12, rfl, rfl, rfl, rfl⟩⟩
      · rw [oSV_eq hw3 (oSV.of (oDK 0 (by decide +kernel) (by decide)) (by first | omega | (have oTs' := oTs; omega) | (simp only [Int32.reduceToInt, Int64.reduceToInt]; omega))) ev11] at c12
        refine oW.dloadN (pc' := 16) K d3_15 rfl rfl ?_
        refine oW.dconst0 (pc' := 17) K d3_16 rfl ?_
        obtain ⟨v17, ev17⟩ : ∃ z : Int32, z = cmpValue (FP.dcmp v (0 : UInt64)) .l := ⟨_, rfl⟩
        refine oW.dcmp (pc' := 18) K d3_17 ev17 rfl ?_
        refine oW.if_ne (pc' := 22) (pc3 := 21) K d3_18 (by decide) (by decide) rfl (fun c18 => ?_) (fun c18 => ?_)
        · rw [oSV_eq (oSV.of hv (by omega)) (oSV.of (oDK 0 (by decide +kernel) (by decide)) (by first | omega | (have oTs' := oTs; omega) | (simp only [Int32.reduceToInt, Int64.reduceToInt]; omega))) ev17] at c18
          refine oW.aloadN (pc' := 23) K d3_22 rfl rfl rfl ?_
          refine oW.getf (i := 0) (q := 1) (pc' := 26) K (hw _ (List.mem_of_getElem? (i := 13) rfl)) d3_23 rfl rfl rfl ?_
          refine oW.aloadN (pc' := 27) K d3_26 rfl rfl rfl ?_
          refine oW.getf (i := 0) (q := 2) (pc' := 30) K (hw _ (List.mem_of_getElem? (i := 20) rfl)) d3_27 rfl rfl rfl ?_
          refine oW.iloadN (pc' := 31) K d3_30 rfl rfl ?_
          refine oW.iastore (i := 2) (k := 0) (ds' := [(a, .inr ("com/example/lotwise/lotwise/search/SparseVector", [("com/example/lotwise/lotwise/search/SparseVector", "values", "[D", (.ref b)), ("com/example/lotwise/lotwise/search/SparseVector", "index", "[I", (.ref d)), ("com/example/lotwise/lotwise/search/SparseVector", "count", "I", (.int (0 : Int32)))])), (b, .inl (.double, [(.double w0), (.double w1), (.double w2), (.double w3)])), (d, .inl (.int, [(.int (3 : Int32)), (.int x1), (.int x2), (.int x3)]))]) (pc' := 32) K d3_31 rfl rfl (by decide) (Nat.lt_of_sub_eq_succ rfl) rfl rfl ?_
          refine oW.aloadN (pc' := 33) K d3_32 rfl rfl rfl ?_
          refine oW.dup (pc' := 34) K d3_33 rfl rfl ?_
          refine oW.getf (i := 0) (q := 2) (pc' := 37) K (hw _ (List.mem_of_getElem? (i := 20) rfl)) d3_34 rfl rfl rfl ?_
          refine oW.iconst (v := (1 : Int32)) (pc' := 38) K d3_37 (by decide) rfl ?_
          refine oW.iadd (v := (1 : Int32)) (pc' := 39) K d3_38 (by decide) rfl ?_
          refine oW.putf (i := 0) (q := 2) (ty := .int) (ds' := [(a, .inr ("com/example/lotwise/lotwise/search/SparseVector", [("com/example/lotwise/lotwise/search/SparseVector", "values", "[D", (.ref b)), ("com/example/lotwise/lotwise/search/SparseVector", "index", "[I", (.ref d)), ("com/example/lotwise/lotwise/search/SparseVector", "count", "I", (.int (1 : Int32)))])), (b, .inl (.double, [(.double w0), (.double w1), (.double w2), (.double w3)])), (d, .inl (.int, [(.int (3 : Int32)), (.int x1), (.int x2), (.int x3)]))]) (pc' := 42) K (hw _ (List.mem_of_getElem? (i := 20) rfl)) (Or.inl (hw _ (List.mem_of_getElem? (i := 21) rfl))) (hw _ (List.mem_of_getElem? (i := 1) rfl)) (oAp_0 hw) d3_39 rfl rfl (by decide) rfl rfl rfl rfl ?_
          refine oW.dload (pc' := 44) K d3_42 rfl rfl ?_
          refine oW.dloadN (pc' := 45) K d3_44 rfl rfl ?_
          obtain ⟨v45, ev45⟩ : ∃ z : UInt64, z = FP.dadd w3 v := ⟨_, rfl⟩
          obtain ⟨Sv45, sv45, fv45⟩ := oSV_add hw3 hv hz hD hb3 ev45
          refine oW.dadd (pc' := 46) K d3_45 ev45 (oSV.nn sv45) rfl ?_
          refine oW.dstore (Ls' := #[.val (.ref a), .val (.int (3 : Int32)), .val (.double v), .second, .val (.double w3), .second, .val (.double v45), .second]) (pc' := 48) K d3_46 rfl rfl ?_
          refine oW.aloadN (pc' := 49) K d3_48 rfl rfl rfl ?_
          refine oW.getf (i := 0) (q := 0) (pc' := 52) K (hw _ (List.mem_of_getElem? (i := 10) rfl)) d3_49 rfl rfl rfl ?_
          refine oW.iloadN (pc' := 53) K d3_52 rfl rfl ?_
          refine oW.dload (pc' := 55) K d3_53 rfl rfl ?_
          refine oW.dconst0 (pc' := 56) K d3_55 rfl ?_
          obtain ⟨v56, ev56⟩ : ∃ z : Int32, z = cmpValue (FP.dcmp v45 (0 : UInt64)) .l := ⟨_, rfl⟩
          refine oW.dcmp (pc' := 57) K d3_56 ev56 rfl ?_
          refine oW.if_ne (pc' := 66) (pc3 := 60) K d3_57 (by decide) (by decide) rfl (fun c57 => ?_) (fun c57 => ?_)
          · rw [oSV_eq sv45 (oSV.of (oDK 0 (by decide +kernel) (by decide)) (by first | omega | (have oTs' := oTs; omega) | (simp only [Int32.reduceToInt, Int64.reduceToInt]; omega))) ev56] at c57
            refine oW.dload (pc' := 68) K d3_66 rfl rfl ?_
            refine oW.dastore (i := 1) (k := 3) (ds' := [(a, .inr ("com/example/lotwise/lotwise/search/SparseVector", [("com/example/lotwise/lotwise/search/SparseVector", "values", "[D", (.ref b)), ("com/example/lotwise/lotwise/search/SparseVector", "index", "[I", (.ref d)), ("com/example/lotwise/lotwise/search/SparseVector", "count", "I", (.int (1 : Int32)))])), (b, .inl (.double, [(.double w0), (.double w1), (.double w2), (.double v45)])), (d, .inl (.int, [(.int (3 : Int32)), (.int x1), (.int x2), (.int x3)]))]) (pc' := 69) K d3_68 rfl rfl (by decide) (Nat.lt_of_sub_eq_succ rfl) rfl rfl ?_
            exact oW.retV K rfl d3_69 (by decide) (by decide) ⟨rfl, w0, w1, w2, v45, (W0), (W1), (W2), (Sv45), (3 : Int32), x1, x2, x3, (1 : Int32), rfl, hw0, hw1, hw2, sv45, Or.inr ⟨by decide, rfl⟩, Or.inr ⟨by decide, rfl⟩, Or.inr ⟨by decide, rfl⟩, oFE_b rfl fv45 (fun z => c18 z.2) (Or.inr ⟨c57, rfl⟩) hb3, Or.inl ⟨⟨c18, (Or.inr (Or.inr (Or.inr (⟨rfl, c12⟩))))⟩, by decide, (Or.inl ⟨by decide, rfl, rfl, rfl⟩)⟩⟩
          · rw [oSV_eq sv45 (oSV.of (oDK 0 (by decide +kernel) (by decide)) (by first | omega | (have oTs' := oTs; omega) | (simp only [Int32.reduceToInt, Int64.reduceToInt]; omega))) ev56] at c57
            refine oW.ldc2D (pc' := 63) K (hw _ (List.mem_of_getElem? (i := 29) rfl)) d3_60 rfl ?_
            refine oW.goto (pc' := 68) K d3_63 (by decide) (by decide) ?_
            refine oW.dastore (i := 1) (k := 3) (ds' := [(a, .inr ("com/example/lotwise/lotwise/search/SparseVector", [("com/example/lotwise/lotwise/search/SparseVector", "values", "[D", (.ref b)), ("com/example/lotwise/lotwise/search/SparseVector", "index", "[I", (.ref d)), ("com/example/lotwise/lotwise/search/SparseVector", "count", "I", (.int (1 : Int32)))])), (b, .inl (.double, [(.double w0), (.double w1), (.double w2), (.double (118622047889322841 : UInt64))])), (d, .inl (.int, [(.int (3 : Int32)), (.int x1), (.int x2), (.int x3)]))]) (pc' := 69) K d3_68 rfl rfl (by decide) (Nat.lt_of_sub_eq_succ rfl) rfl rfl ?_
            exact oW.retV K rfl d3_69 (by decide) (by decide) ⟨rfl, w0, w1, w2, (118622047889322841 : UInt64), (W0), (W1), (W2), (1000), (3 : Int32), x1, x2, x3, (1 : Int32), rfl, hw0, hw1, hw2, oSV.tiny, Or.inr ⟨by decide, rfl⟩, Or.inr ⟨by decide, rfl⟩, Or.inr ⟨by decide, rfl⟩, oFE_b rfl fv45 (fun z => c18 z.2) (Or.inl ⟨c57, rfl⟩) hb3, Or.inl ⟨⟨c18, (Or.inr (Or.inr (Or.inr (⟨rfl, c12⟩))))⟩, by decide, (Or.inl ⟨by decide, rfl, rfl, rfl⟩)⟩⟩
        · rw [oSV_eq (oSV.of hv (by omega)) (oSV.of (oDK 0 (by decide +kernel) (by decide)) (by first | omega | (have oTs' := oTs; omega) | (simp only [Int32.reduceToInt, Int64.reduceToInt]; omega))) ev17] at c18
          exact oW.retV K rfl d3_21 (by decide) (by decide) ⟨rfl, w0, w1, w2, w3, (W0), (W1), (W2), (W3), x0, x1, x2, x3, (0 : Int32), rfl, hw0, hw1, hw2, hw3, Or.inr ⟨by decide, rfl⟩, Or.inr ⟨by decide, rfl⟩, Or.inr ⟨by decide, rfl⟩, oFE_a rfl c12 c18, Or.inr ⟨oNoD c18, rfl, rfl, rfl, rfl⟩⟩
    · subst hnn
      refine oW.aloadN (pc' := 1) K d3_0 rfl rfl rfl ?_
      refine oW.getf (i := 0) (q := 0) (pc' := 4) K (hw _ (List.mem_of_getElem? (i := 10) rfl)) d3_1 rfl rfl rfl ?_
      refine oW.iloadN (pc' := 5) K d3_4 rfl rfl ?_
      refine oW.daload (i := 1) (k := 3) (pc' := 6) K d3_5 rfl rfl (by decide) rfl rfl ?_
      refine oW.dstore (Ls' := #[.val (.ref a), .val (.int (3 : Int32)), .val (.double v), .second, .val (.double w3), .second, .unset, .unset]) (pc' := 8) K d3_6 rfl rfl ?_
      refine oW.dload (pc' := 10) K d3_8 rfl rfl ?_
      refine oW.dconst0 (pc' := 11) K d3_10 rfl ?_
      obtain ⟨v11, ev11⟩ : ∃ z : Int32, z = cmpValue (FP.dcmp w3 (0 : UInt64)) .l := ⟨_, rfl⟩
      refine oW.dcmp (pc' := 12) K d3_11 ev11 rfl ?_
      refine oW.if_ne (pc' := 42) (pc3 := 15) K d3_12 (by decide) (by decide) rfl (fun c12 => ?_) (fun c12 => ?_)
      · rw [oSV_eq hw3 (oSV.of (oDK 0 (by decide +kernel) (by decide)) (by first | omega | (have oTs' := oTs; omega) | (simp only [Int32.reduceToInt, Int64.reduceToInt]; omega))) ev11] at c12
        refine oW.dload (pc' := 44) K d3_42 rfl rfl ?_
        refine oW.dloadN (pc' := 45) K d3_44 rfl rfl ?_
        obtain ⟨v45, ev45⟩ : ∃ z : UInt64, z = FP.dadd w3 v := ⟨_, rfl⟩
        obtain ⟨Sv45, sv45, fv45⟩ := oSV_add hw3 hv hz hD hb3 ev45
        refine oW.dadd (pc' := 46) K d3_45 ev45 (oSV.nn sv45) rfl ?_
        refine oW.dstore (Ls' := #[.val (.ref a), .val (.int (3 : Int32)), .val (.double v), .second, .val (.double w3), .second, .val (.double v45), .second]) (pc' := 48) K d3_46 rfl rfl ?_
        refine oW.aloadN (pc' := 49) K d3_48 rfl rfl rfl ?_
        refine oW.getf (i := 0) (q := 0) (pc' := 52) K (hw _ (List.mem_of_getElem? (i := 10) rfl)) d3_49 rfl rfl rfl ?_
        refine oW.iloadN (pc' := 53) K d3_52 rfl rfl ?_
        refine oW.dload (pc' := 55) K d3_53 rfl rfl ?_
        refine oW.dconst0 (pc' := 56) K d3_55 rfl ?_
        obtain ⟨v56, ev56⟩ : ∃ z : Int32, z = cmpValue (FP.dcmp v45 (0 : UInt64)) .l := ⟨_, rfl⟩
        refine oW.dcmp (pc' := 57) K d3_56 ev56 rfl ?_
        refine oW.if_ne (pc' := 66) (pc3 := 60) K d3_57 (by decide) (by decide) rfl (fun c57 => ?_) (fun c57 => ?_)
        · rw [oSV_eq sv45 (oSV.of (oDK 0 (by decide +kernel) (by decide)) (by first | omega | (have oTs' := oTs; omega) | (simp only [Int32.reduceToInt, Int64.reduceToInt]; omega))) ev56] at c57
          refine oW.dload (pc' := 68) K d3_66 rfl rfl ?_
          refine oW.dastore (i := 1) (k := 3) (ds' := [(a, .inr ("com/example/lotwise/lotwise/search/SparseVector", [("com/example/lotwise/lotwise/search/SparseVector", "values", "[D", (.ref b)), ("com/example/lotwise/lotwise/search/SparseVector", "index", "[I", (.ref d)), ("com/example/lotwise/lotwise/search/SparseVector", "count", "I", (.int (1 : Int32)))])), (b, .inl (.double, [(.double w0), (.double w1), (.double w2), (.double v45)])), (d, .inl (.int, [(.int x0), (.int x1), (.int x2), (.int x3)]))]) (pc' := 69) K d3_68 rfl rfl (by decide) (Nat.lt_of_sub_eq_succ rfl) rfl rfl ?_
          exact oW.retV K rfl d3_69 (by decide) (by decide) ⟨rfl, w0, w1, w2, v45, (W0), (W1), (W2), (Sv45), x0, x1, x2, x3, (1 : Int32), rfl, hw0, hw1, hw2, sv45, Or.inr ⟨by decide, rfl⟩, Or.inr ⟨by decide, rfl⟩, Or.inr ⟨by decide, rfl⟩, oFE_b rfl fv45 (fun z => c12 z.1) (Or.inr ⟨c57, rfl⟩) hb3, Or.inr ⟨oNoW3 rfl c12, rfl, rfl, rfl, rfl⟩⟩
        · rw [oSV_eq sv45 (oSV.of (oDK 0 (by decide +kernel) (by decide)) (by first | omega | (have oTs' := oTs; omega) | (simp only [Int32.reduceToInt, Int64.reduceToInt]; omega))) ev56] at c57
          refine oW.ldc2D (pc' := 63) K (hw _ (List.mem_of_getElem? (i := 29) rfl)) d3_60 rfl ?_
          refine oW.goto (pc' := 68) K d3_63 (by decide) (by decide) ?_
          refine oW.dastore (i := 1) (k := 3) (ds' := [(a, .inr ("com/example/lotwise/lotwise/search/SparseVector", [("com/example/lotwise/lotwise/search/SparseVector", "values", "[D", (.ref b)), ("com/example/lotwise/lotwise/search/SparseVector", "index", "[I", (.ref d)), ("com/example/lotwise/lotwise/search/SparseVector", "count", "I", (.int (1 : Int32)))])), (b, .inl (.double, [(.double w0), (.double w1), (.double w2), (.double (118622047889322841 : UInt64))])), (d, .inl (.int, [(.int x0), (.int x1), (.int x2), (.int x3)]))]) (pc' := 69) K d3_68 rfl rfl (by decide) (Nat.lt_of_sub_eq_succ rfl) rfl rfl ?_
          exact oW.retV K rfl d3_69 (by decide) (by decide) ⟨rfl, w0, w1, w2, (118622047889322841 : UInt64), (W0), (W1), (W2), (1000), x0, x1, x2, x3, (1 : Int32), rfl, hw0, hw1, hw2, oSV.tiny, Or.inr ⟨by decide, rfl⟩, Or.inr ⟨by decide, rfl⟩, Or.inr ⟨by decide, rfl⟩, oFE_b rfl fv45 (fun z => c12 z.1) (Or.inl ⟨c57, rfl⟩) hb3, Or.inr ⟨oNoW3 rfl c12, rfl, rfl, rfl, rfl⟩⟩
      · rw [oSV_eq hw3 (oSV.of (oDK 0 (by decide +kernel) (by decide)) (by first | omega | (have oTs' := oTs; omega) | (simp only [Int32.reduceToInt, Int64.reduceToInt]; omega))) ev11] at c12
        refine oW.dloadN (pc' := 16) K d3_15 rfl rfl ?_
        refine oW.dconst0 (pc' := 17) K d3_16 rfl ?_
        obtain ⟨v17, ev17⟩ : ∃ z : Int32, z = cmpValue (FP.dcmp v (0 : UInt64)) .l := ⟨_, rfl⟩
        refine oW.dcmp (pc' := 18) K d3_17 ev17 rfl ?_
        refine oW.if_ne (pc' := 22) (pc3 := 21) K d3_18 (by decide) (by decide) rfl (fun c18 => ?_) (fun c18 => ?_)
        · rw [oSV_eq (oSV.of hv (by omega)) (oSV.of (oDK 0 (by decide +kernel) (by decide)) (by first | omega | (have oTs' := oTs; omega) | (simp only [Int32.reduceToInt, Int64.reduceToInt]; omega))) ev17] at c18
          refine oW.aloadN (pc' := 23) K d3_22 rfl rfl rfl ?_
          refine oW.getf (i := 0) (q := 1) (pc' := 26) K (hw _ (List.mem_of_getElem? (i := 13) rfl)) d3_23 rfl rfl rfl ?_
          refine oW.aloadN (pc' := 27) K d3_26 rfl rfl rfl ?_
          refine oW.getf (i := 0) (q := 2) (pc' := 30) K (hw _ (List.mem_of_getElem? (i := 20) rfl)) d3_27 rfl rfl rfl ?_
          refine oW.iloadN (pc' := 31) K d3_30 rfl rfl ?_
          refine oW.iastore (i := 2) (k := 1) (ds' := [(a, .inr ("com/example/lotwise/lotwise/search/SparseVector", [("com/example/lotwise/lotwise/search/SparseVector", "values", "[D", (.ref b)), ("com/example/lotwise/lotwise/search/SparseVector", "index", "[I", (.ref d)), ("com/example/lotwise/lotwise/search/SparseVector", "count", "I", (.int (1 : Int32)))])), (b, .inl (.double, [(.double w0), (.double w1), (.double w2), (.double w3)])), (d, .inl (.int, [(.int x0), (.int (3 : Int32)), (.int x2), (.int x3)]))]) (pc' := 32) K d3_31 rfl rfl (by decide) (Nat.lt_of_sub_eq_succ rfl) rfl rfl ?_
          refine oW.aloadN (pc' := 33) K d3_32 rfl rfl rfl ?_
          refine oW.dup (pc' := 34) K d3_33 rfl rfl ?_
          refine oW.getf (i := 0) (q := 2) (pc' := 37) K (hw _ (List.mem_of_getElem? (i := 20) rfl)) d3_34 rfl rfl rfl ?_
          refine oW.iconst (v := (1 : Int32)) (pc' := 38) K d3_37 (by decide) rfl ?_
          refine oW.iadd (v := (2 : Int32)) (pc' := 39) K d3_38 (by decide) rfl ?_
          refine oW.putf (i := 0) (q := 2) (ty := .int) (ds' := [(a, .inr ("com/example/lotwise/lotwise/search/SparseVector", [("com/example/lotwise/lotwise/search/SparseVector", "values", "[D", (.ref b)), ("com/example/lotwise/lotwise/search/SparseVector", "index", "[I", (.ref d)), ("com/example/lotwise/lotwise/search/SparseVector", "count", "I", (.int (2 : Int32)))])), (b, .inl (.double, [(.double w0), (.double w1), (.double w2), (.double w3)])), (d, .inl (.int, [(.int x0), (.int (3 : Int32)), (.int x2), (.int x3)]))]) (pc' := 42) K (hw _ (List.mem_of_getElem? (i := 20) rfl)) (Or.inl (hw _ (List.mem_of_getElem? (i := 21) rfl))) (hw _ (List.mem_of_getElem? (i := 1) rfl)) (oAp_0 hw) d3_39 rfl rfl (by decide) rfl rfl rfl rfl ?_
          refine oW.dload (pc' := 44) K d3_42 rfl rfl ?_
          refine oW.dloadN (pc' := 45) K d3_44 rfl rfl ?_
          obtain ⟨v45, ev45⟩ : ∃ z : UInt64, z = FP.dadd w3 v := ⟨_, rfl⟩
          obtain ⟨Sv45, sv45, fv45⟩ := oSV_add hw3 hv hz hD hb3 ev45
          refine oW.dadd (pc' := 46) K d3_45 ev45 (oSV.nn sv45) rfl ?_
          refine oW.dstore (Ls' := #[.val (.ref a), .val (.int (3 : Int32)), .val (.double v), .second, .val (.double w3), .second, .val (.double v45), .second]) (pc' := 48) K d3_46 rfl rfl ?_
          refine oW.aloadN (pc' := 49) K d3_48 rfl rfl rfl ?_
          refine oW.getf (i := 0) (q := 0) (pc' := 52) K (hw _ (List.mem_of_getElem? (i := 10) rfl)) d3_49 rfl rfl rfl ?_
          refine oW.iloadN (pc' := 53) K d3_52 rfl rfl ?_
          refine oW.dload (pc' := 55) K d3_53 rfl rfl ?_
          refine oW.dconst0 (pc' := 56) K d3_55 rfl ?_
          obtain ⟨v56, ev56⟩ : ∃ z : Int32, z = cmpValue (FP.dcmp v45 (0 : UInt64)) .l := ⟨_, rfl⟩
          refine oW.dcmp (pc' := 57) K d3_56 ev56 rfl ?_
          refine oW.if_ne (pc' := 66) (pc3 := 60) K d3_57 (by decide) (by decide) rfl (fun c57 => ?_) (fun c57 => ?_)
          · rw [oSV_eq sv45 (oSV.of (oDK 0 (by decide +kernel) (by decide)) (by first | omega | (have oTs' := oTs; omega) | (simp only [Int32.reduceToInt, Int64.reduceToInt]; omega))) ev56] at c57
            refine oW.dload (pc' := 68) K d3_66 rfl rfl ?_
            refine oW.dastore (i := 1) (k := 3) (ds' := [(a, .inr ("com/example/lotwise/lotwise/search/SparseVector", [("com/example/lotwise/lotwise/search/SparseVector", "values", "[D", (.ref b)), ("com/example/lotwise/lotwise/search/SparseVector", "index", "[I", (.ref d)), ("com/example/lotwise/lotwise/search/SparseVector", "count", "I", (.int (2 : Int32)))])), (b, .inl (.double, [(.double w0), (.double w1), (.double w2), (.double v45)])), (d, .inl (.int, [(.int x0), (.int (3 : Int32)), (.int x2), (.int x3)]))]) (pc' := 69) K d3_68 rfl rfl (by decide) (Nat.lt_of_sub_eq_succ rfl) rfl rfl ?_
            exact oW.retV K rfl d3_69 (by decide) (by decide) ⟨rfl, w0, w1, w2, v45, (W0), (W1), (W2), (Sv45), x0, (3 : Int32), x2, x3, (2 : Int32), rfl, hw0, hw1, hw2, sv45, Or.inr ⟨by decide, rfl⟩, Or.inr ⟨by decide, rfl⟩, Or.inr ⟨by decide, rfl⟩, oFE_b rfl fv45 (fun z => c18 z.2) (Or.inr ⟨c57, rfl⟩) hb3, Or.inl ⟨⟨c18, (Or.inr (Or.inr (Or.inr (⟨rfl, c12⟩))))⟩, by decide, (Or.inr (Or.inl ⟨by decide, rfl, rfl, rfl⟩))⟩⟩
          · rw [oSV_eq sv45 (oSV.of (oDK 0 (by decide +kernel) (by decide)) (by first | omega | (have oTs' := oTs; omega) | (simp only [Int32.reduceToInt, Int64.reduceToInt]; omega))) ev56] at c57
            refine oW.ldc2D (pc' := 63) K (hw _ (List.mem_of_getElem? (i := 29) rfl)) d3_60 rfl ?_
            refine oW.goto (pc' := 68) K d3_63 (by decide) (by decide) ?_
            refine oW.dastore (i := 1) (k := 3) (ds' := [(a, .inr ("com/example/lotwise/lotwise/search/SparseVector", [("com/example/lotwise/lotwise/search/SparseVector", "values", "[D", (.ref b)), ("com/example/lotwise/lotwise/search/SparseVector", "index", "[I", (.ref d)), ("com/example/lotwise/lotwise/search/SparseVector", "count", "I", (.int (2 : Int32)))])), (b, .inl (.double, [(.double w0), (.double w1), (.double w2), (.double (118622047889322841 : UInt64))])), (d, .inl (.int, [(.int x0), (.int (3 : Int32)), (.int x2), (.int x3)]))]) (pc' := 69) K d3_68 rfl rfl (by decide) (Nat.lt_of_sub_eq_succ rfl) rfl rfl ?_
            exact oW.retV K rfl d3_69 (by decide) (by decide) ⟨rfl, w0, w1, w2, (118622047889322841 : UInt64), (W0), (W1), (W2), (1000), x0, (3 : Int32), x2, x3, (2 : Int32), rfl, hw0, hw1, hw2, oSV.tiny, Or.inr ⟨by decide, rfl⟩, Or.inr ⟨by decide, rfl⟩, Or.inr ⟨by decide, rfl⟩, oFE_b rfl fv45 (fun z => c18 z.2) (Or.inl ⟨c57, rfl⟩) hb3, Or.inl ⟨⟨c18, (Or.inr (Or.inr (Or.inr (⟨rfl, c12⟩))))⟩, by decide, (Or.inr (Or.inl ⟨by decide, rfl, rfl, rfl⟩))⟩⟩
        · rw [oSV_eq (oSV.of hv (by omega)) (oSV.of (oDK 0 (by decide +kernel) (by decide)) (by first | omega | (have oTs' := oTs; omega) | (simp only [Int32.reduceToInt, Int64.reduceToInt]; omega))) ev17] at c18
          exact oW.retV K rfl d3_21 (by decide) (by decide) ⟨rfl, w0, w1, w2, w3, (W0), (W1), (W2), (W3), x0, x1, x2, x3, (1 : Int32), rfl, hw0, hw1, hw2, hw3, Or.inr ⟨by decide, rfl⟩, Or.inr ⟨by decide, rfl⟩, Or.inr ⟨by decide, rfl⟩, oFE_a rfl c12 c18, Or.inr ⟨oNoD c18, rfl, rfl, rfl, rfl⟩⟩
    · subst hnn
      refine oW.aloadN (pc' := 1) K d3_0 rfl rfl rfl ?_
      refine oW.getf (i := 0) (q := 0) (pc' := 4) K (hw _ (List.mem_of_getElem? (i := 10) rfl)) d3_1 rfl rfl rfl ?_
      refine oW.iloadN (pc' := 5) K d3_4 rfl rfl ?_
      refine oW.daload (i := 1) (k := 3) (pc' := 6) K d3_5 rfl rfl (by decide) rfl rfl ?_
      refine oW.dstore (Ls' := #[.val (.ref a), .val (.int (3 : Int32)), .val (.double v), .second, .val (.double w3), .second, .unset, .unset]) (pc' := 8) K d3_6 rfl rfl ?_
      refine oW.dload (pc' := 10) K d3_8 rfl rfl ?_
      refine oW.dconst0 (pc' := 11) K d3_10 rfl ?_
      obtain ⟨v11, ev11⟩ : ∃ z : Int32, z = cmpValue (FP.dcmp w3 (0 : UInt64)) .l := ⟨_, rfl⟩
      refine oW.dcmp (pc' := 12) K d3_11 ev11 rfl ?_
      refine oW.if_ne (pc' := 42) (pc3 := 15) K d3_12 (by decide) (by decide) rfl (fun c12 => ?_) (fun c12 => ?_)
      · rw [oSV_eq hw3 (oSV.of (oDK 0 (by decide +kernel) (by decide)) (by first | omega | (have oTs' := oTs; omega) | (simp only [Int32.reduceToInt, Int64.reduceToInt]; omega))) ev11] at c12
        refine oW.dload (pc' := 44) K d3_42 rfl rfl ?_
        refine oW.dloadN (pc' := 45) K d3_44 rfl rfl ?_
        obtain ⟨v45, ev45⟩ : ∃ z : UInt64, z = FP.dadd w3 v := ⟨_, rfl⟩
        obtain ⟨Sv45, sv45, fv45⟩ := oSV_add hw3 hv hz hD hb3 ev45
        refine oW.dadd (pc' := 46) K d3_45 ev45 (oSV.nn sv45) rfl ?_
        refine oW.dstore (Ls' := #[.val (.ref a), .val (.int (3 : Int32)), .val (.double v), .second, .val (.double w3), .second, .val (.double v45), .second]) (pc' := 48) K d3_46 rfl rfl ?_
        refine oW.aloadN (pc' := 49) K d3_48 rfl rfl rfl ?_
        refine oW.getf (i := 0) (q := 0) (pc' := 52) K (hw _ (List.mem_of_getElem? (i := 10) rfl)) d3_49 rfl rfl rfl ?_
        refine oW.iloadN (pc' := 53) K d3_52 rfl rfl ?_
        refine oW.dload (pc' := 55) K d3_53 rfl rfl ?_
        refine oW.dconst0 (pc' := 56) K d3_55 rfl ?_
        obtain ⟨v56, ev56⟩ : ∃ z : Int32, z = cmpValue (FP.dcmp v45 (0 : UInt64)) .l := ⟨_, rfl⟩
        refine oW.dcmp (pc' := 57) K d3_56 ev56 rfl ?_
        refine oW.if_ne (pc' := 66) (pc3 := 60) K d3_57 (by decide) (by decide) rfl (fun c57 => ?_) (fun c57 => ?_)
        · rw [oSV_eq sv45 (oSV.of (oDK 0 (by decide +kernel) (by decide)) (by first | omega | (have oTs' := oTs; omega) | (simp only [Int32.reduceToInt, Int64.reduceToInt]; omega))) ev56] at c57
          refine oW.dload (pc' := 68) K d3_66 rfl rfl ?_
          refine oW.dastore (i := 1) (k := 3) (ds' := [(a, .inr ("com/example/lotwise/lotwise/search/SparseVector", [("com/example/lotwise/lotwise/search/SparseVector", "values", "[D", (.ref b)), ("com/example/lotwise/lotwise/search/SparseVector", "index", "[I", (.ref d)), ("com/example/lotwise/lotwise/search/SparseVector", "count", "I", (.int (2 : Int32)))])), (b, .inl (.double, [(.double w0), (.double w1), (.double w2), (.double v45)])), (d, .inl (.int, [(.int x0), (.int x1), (.int x2), (.int x3)]))]) (pc' := 69) K d3_68 rfl rfl (by decide) (Nat.lt_of_sub_eq_succ rfl) rfl rfl ?_
          exact oW.retV K rfl d3_69 (by decide) (by decide) ⟨rfl, w0, w1, w2, v45, (W0), (W1), (W2), (Sv45), x0, x1, x2, x3, (2 : Int32), rfl, hw0, hw1, hw2, sv45, Or.inr ⟨by decide, rfl⟩, Or.inr ⟨by decide, rfl⟩, Or.inr ⟨by decide, rfl⟩, oFE_b rfl fv45 (fun z => c12 z.1) (Or.inr ⟨c57, rfl⟩) hb3, Or.inr ⟨oNoW3 rfl c12, rfl, rfl, rfl, rfl⟩⟩
        · rw [oSV_eq sv45 (oSV.of (oDK 0 (by decide +kernel) (by decide)) (by first | omega | (have oTs' := oTs; omega) | (simp only [Int32.reduceToInt, Int64.reduceToInt]; omega))) ev56] at c57
          refine oW.ldc2D (pc' := 63) K (hw _ (List.mem_of_getElem? (i := 29) rfl)) d3_60 rfl ?_
          refine oW.goto (pc' := 68) K d3_63 (by decide) (by decide) ?_
          refine oW.dastore (i := 1) (k := 3) (ds' := [(a, .inr ("com/example/lotwise/lotwise/search/SparseVector", [("com/example/lotwise/lotwise/search/SparseVector", "values", "[D", (.ref b)), ("com/example/lotwise/lotwise/search/SparseVector", "index", "[I", (.ref d)), ("com/example/lotwise/lotwise/search/SparseVector", "count", "I", (.int (2 : Int32)))])), (b, .inl (.double, [(.double w0), (.double w1), (.double w2), (.double (118622047889322841 : UInt64))])), (d, .inl (.int, [(.int x0), (.int x1), (.int x2), (.int x3)]))]) (pc' := 69) K d3_68 rfl rfl (by decide) (Nat.lt_of_sub_eq_succ rfl) rfl rfl ?_
          exact oW.retV K rfl d3_69 (by decide) (by decide) ⟨rfl, w0, w1, w2, (118622047889322841 : UInt64), (W0), (W1), (W2), (1000), x0, x1, x2, x3, (2 : Int32), rfl, hw0, hw1, hw2, oSV.tiny, Or.inr ⟨by decide, rfl⟩, Or.inr ⟨by decide, rfl⟩, Or.inr ⟨by decide, rfl⟩, oFE_b rfl fv45 (fun z => c12 z.1) (Or.inl ⟨c57, rfl⟩) hb3, Or.inr ⟨oNoW3 rfl c12, rfl, rfl, rfl, rfl⟩⟩
      · rw [oSV_eq hw3 (oSV.of (oDK 0 (by decide +kernel) (by decide)) (by first | omega | (have oTs' := oTs; omega) | (simp only [Int32.reduceToInt, Int64.reduceToInt]; omega))) ev11] at c12
        refine oW.dloadN (pc' := 16) K d3_15 rfl rfl ?_
        refine oW.dconst0 (pc' := 17) K d3_16 rfl ?_
        obtain ⟨v17, ev17⟩ : ∃ z : Int32, z = cmpValue (FP.dcmp v (0 : UInt64)) .l := ⟨_, rfl⟩
        refine oW.dcmp (pc' := 18) K d3_17 ev17 rfl ?_
        refine oW.if_ne (pc' := 22) (pc3 := 21) K d3_18 (by decide) (by decide) rfl (fun c18 => ?_) (fun c18 => ?_)
        · rw [oSV_eq (oSV.of hv (by omega)) (oSV.of (oDK 0 (by decide +kernel) (by decide)) (by first | omega | (have oTs' := oTs; omega) | (simp only [Int32.reduceToInt, Int64.reduceToInt]; omega))) ev17] at c18
          refine oW.aloadN (pc' := 23) K d3_22 rfl rfl rfl ?_
          refine oW.getf (i := 0) (q := 1) (pc' := 26) K (hw _ (List.mem_of_getElem? (i := 13) rfl)) d3_23 rfl rfl rfl ?_
          refine oW.aloadN (pc' := 27) K d3_26 rfl rfl rfl ?_
          refine oW.getf (i := 0) (q := 2) (pc' := 30) K (hw _ (List.mem_of_getElem? (i := 20) rfl)) d3_27 rfl rfl rfl ?_
          refine oW.iloadN (pc' := 31) K d3_30 rfl rfl ?_
          refine oW.iastore (i := 2) (k := 2) (ds' := [(a, .inr ("com/example/lotwise/lotwise/search/SparseVector", [("com/example/lotwise/lotwise/search/SparseVector", "values", "[D", (.ref b)), ("com/example/lotwise/lotwise/search/SparseVector", "index", "[I", (.ref d)), ("com/example/lotwise/lotwise/search/SparseVector", "count", "I", (.int (2 : Int32)))])), (b, .inl (.double, [(.double w0), (.double w1), (.double w2), (.double w3)])), (d, .inl (.int, [(.int x0), (.int x1), (.int (3 : Int32)), (.int x3)]))]) (pc' := 32) K d3_31 rfl rfl (by decide) (Nat.lt_of_sub_eq_succ rfl) rfl rfl ?_
          refine oW.aloadN (pc' := 33) K d3_32 rfl rfl rfl ?_
          refine oW.dup (pc' := 34) K d3_33 rfl rfl ?_
          refine oW.getf (i := 0) (q := 2) (pc' := 37) K (hw _ (List.mem_of_getElem? (i := 20) rfl)) d3_34 rfl rfl rfl ?_
          refine oW.iconst (v := (1 : Int32)) (pc' := 38) K d3_37 (by decide) rfl ?_
          refine oW.iadd (v := (3 : Int32)) (pc' := 39) K d3_38 (by decide) rfl ?_
          refine oW.putf (i := 0) (q := 2) (ty := .int) (ds' := [(a, .inr ("com/example/lotwise/lotwise/search/SparseVector", [("com/example/lotwise/lotwise/search/SparseVector", "values", "[D", (.ref b)), ("com/example/lotwise/lotwise/search/SparseVector", "index", "[I", (.ref d)), ("com/example/lotwise/lotwise/search/SparseVector", "count", "I", (.int (3 : Int32)))])), (b, .inl (.double, [(.double w0), (.double w1), (.double w2), (.double w3)])), (d, .inl (.int, [(.int x0), (.int x1), (.int (3 : Int32)), (.int x3)]))]) (pc' := 42) K (hw _ (List.mem_of_getElem? (i := 20) rfl)) (Or.inl (hw _ (List.mem_of_getElem? (i := 21) rfl))) (hw _ (List.mem_of_getElem? (i := 1) rfl)) (oAp_0 hw) d3_39 rfl rfl (by decide) rfl rfl rfl rfl ?_
          refine oW.dload (pc' := 44) K d3_42 rfl rfl ?_
          refine oW.dloadN (pc' := 45) K d3_44 rfl rfl ?_
          obtain ⟨v45, ev45⟩ : ∃ z : UInt64, z = FP.dadd w3 v := ⟨_, rfl⟩
          obtain ⟨Sv45, sv45, fv45⟩ := oSV_add hw3 hv hz hD hb3 ev45
          refine oW.dadd (pc' := 46) K d3_45 ev45 (oSV.nn sv45) rfl ?_
          refine oW.dstore (Ls' := #[.val (.ref a), .val (.int (3 : Int32)), .val (.double v), .second, .val (.double w3), .second, .val (.double v45), .second]) (pc' := 48) K d3_46 rfl rfl ?_
          refine oW.aloadN (pc' := 49) K d3_48 rfl rfl rfl ?_
          refine oW.getf (i := 0) (q := 0) (pc' := 52) K (hw _ (List.mem_of_getElem? (i := 10) rfl)) d3_49 rfl rfl rfl ?_
          refine oW.iloadN (pc' := 53) K d3_52 rfl rfl ?_
          refine oW.dload (pc' := 55) K d3_53 rfl rfl ?_
          refine oW.dconst0 (pc' := 56) K d3_55 rfl ?_
          obtain ⟨v56, ev56⟩ : ∃ z : Int32, z = cmpValue (FP.dcmp v45 (0 : UInt64)) .l := ⟨_, rfl⟩
          refine oW.dcmp (pc' := 57) K d3_56 ev56 rfl ?_
          refine oW.if_ne (pc' := 66) (pc3 := 60) K d3_57 (by decide) (by decide) rfl (fun c57 => ?_) (fun c57 => ?_)
          · rw [oSV_eq sv45 (oSV.of (oDK 0 (by decide +kernel) (by decide)) (by first | omega | (have oTs' := oTs; omega) | (simp only [Int32.reduceToInt, Int64.reduceToInt]; omega))) ev56] at c57
            refine oW.dload (pc' := 68) K d3_66 rfl rfl ?_
            refine oW.dastore (i := 1) (k := 3) (ds' := [(a, .inr ("com/example/lotwise/lotwise/search/SparseVector", [("com/example/lotwise/lotwise/search/SparseVector", "values", "[D", (.ref b)), ("com/example/lotwise/lotwise/search/SparseVector", "index", "[I", (.ref d)), ("com/example/lotwise/lotwise/search/SparseVector", "count", "I", (.int (3 : Int32)))])), (b, .inl (.double, [(.double w0), (.double w1), (.double w2), (.double v45)])), (d, .inl (.int, [(.int x0), (.int x1), (.int (3 : Int32)), (.int x3)]))]) (pc' := 69) K d3_68 rfl rfl (by decide) (Nat.lt_of_sub_eq_succ rfl) rfl rfl ?_
            exact oW.retV K rfl d3_69 (by decide) (by decide) ⟨rfl, w0, w1, w2, v45, (W0), (W1), (W2), (Sv45), x0, x1, (3 : Int32), x3, (3 : Int32), rfl, hw0, hw1, hw2, sv45, Or.inr ⟨by decide, rfl⟩, Or.inr ⟨by decide, rfl⟩, Or.inr ⟨by decide, rfl⟩, oFE_b rfl fv45 (fun z => c18 z.2) (Or.inr ⟨c57, rfl⟩) hb3, Or.inl ⟨⟨c18, (Or.inr (Or.inr (Or.inr (⟨rfl, c12⟩))))⟩, by decide, (Or.inr (Or.inr (⟨by decide, rfl, rfl, rfl⟩)))⟩⟩
          · rw [oSV_eq sv45 (oSV.of (oDK 0 (by decide +kernel) (by decide)) (by first | omega | (have oTs' := oTs; omega) | (simp only [Int32.reduceToInt, Int64.reduceToInt]; omega))) ev56] at c57
            refine oW.ldc2D (pc' := 63) K (hw _ (List.mem_of_getElem? (i := 29) rfl)) d3_60 rfl ?_
            refine oW.goto (pc' := 68) K d3_63 (by decide) (by decide) ?_
            refine oW.dastore (i := 1) (k := 3) (ds' := [(a, .inr ("com/example/lotwise/lotwise/search/SparseVector", [("com/example/lotwise/lotwise/search/SparseVector", "values", "[D", (.ref b)), ("com/example/lotwise/lotwise/search/SparseVector", "index", "[I", (.ref d)), ("com/example/lotwise/lotwise/search/SparseVector", "count", "I", (.int (3 : Int32)))])), (b, .inl (.double, [(.double w0), (.double w1), (.double w2), (.double (118622047889322841 : UInt64))])), (d, .inl (.int, [(.int x0), (.int x1), (.int (3 : Int32)), (.int x3)]))]) (pc' := 69) K d3_68 rfl rfl (by decide) (Nat.lt_of_sub_eq_succ rfl) rfl rfl ?_
            exact oW.retV K rfl d3_69 (by decide) (by decide) ⟨rfl, w0, w1, w2, (118622047889322841 : UInt64), (W0), (W1), (W2), (1000), x0, x1, (3 : Int32), x3, (3 : Int32), rfl, hw0, hw1, hw2, oSV.tiny, Or.inr ⟨by decide, rfl⟩, Or.inr ⟨by decide, rfl⟩, Or.inr ⟨by decide, rfl⟩, oFE_b rfl fv45 (fun z => c18 z.2) (Or.inl ⟨c57, rfl⟩) hb3, Or.inl ⟨⟨c18, (Or.inr (Or.inr (Or.inr (⟨rfl, c12⟩))))⟩, by decide, (Or.inr (Or.inr (⟨by decide, rfl, rfl, rfl⟩)))⟩⟩
        · rw [oSV_eq (oSV.of hv (by omega)) (oSV.of (oDK 0 (by decide +kernel) (by decide)) (by first | omega | (have oTs' := oTs; omega) | (simp only [Int32.reduceToInt, Int64.reduceToInt]; omega))) ev17] at c18
          exact oW.retV K rfl d3_21 (by decide) (by decide) ⟨rfl, w0, w1, w2, w3, (W0), (W1), (W2), (W3), x0, x1, x2, x3, (2 : Int32), rfl, hw0, hw1, hw2, hw3, Or.inr ⟨by decide, rfl⟩, Or.inr ⟨by decide, rfl⟩, Or.inr ⟨by decide, rfl⟩, oFE_a rfl c12 c18, Or.inr ⟨oNoD c18, rfl, rfl, rfl, rfl⟩⟩
theorem d4_0 : decode method_3_code 0 = .ok (.iconst 0, 1) := by decide +kernel
theorem d4_1 : decode method_3_code 1 = .ok (.istore 8, 2) := by decide +kernel
theorem d4_3 : decode method_3_code 3 = .ok (.iconst 0, 1) := by decide +kernel
theorem d4_4 : decode method_3_code 4 = .ok (.istore 9, 2) := by decide +kernel
theorem d4_6 : decode method_3_code 6 = .ok (.iload_n 2, 1) := by decide +kernel
theorem d4_7 : decode method_3_code 7 = .ok (.iload_n 1, 1) := by decide +kernel
theorem d4_8 : decode method_3_code 8 = .ok (.if_icmp .ne 16, 3) := by decide +kernel
theorem d4_11 : decode method_3_code 11 = .ok (.iload 8, 2) := by decide +kernel
theorem d4_13 : decode method_3_code 13 = .ok (.iload_n 3, 1) := by decide +kernel
theorem d4_14 : decode method_3_code 14 = .ok (.iadd, 1) := by decide +kernel
theorem d4_15 : decode method_3_code 15 = .ok (.istore 8, 2) := by decide +kernel
theorem d4_17 : decode method_3_code 17 = .ok (.iload_n 3, 1) := by decide +kernel
theorem d4_18 : decode method_3_code 18 = .ok (.ifCond .eq 6, 3) := by decide +kernel
theorem d4_21 : decode method_3_code 21 = .ok (.iconst 1, 1) := by decide +kernel
theorem d4_22 : decode method_3_code 22 = .ok (.istore 9, 2) := by decide +kernel
theorem d4_24 : decode method_3_code 24 = .ok (.iload 4, 2) := by decide +kernel
theorem d4_26 : decode method_3_code 26 = .ok (.iload_n 1, 1) := by decide +kernel
theorem d4_27 : decode method_3_code 27 = .ok (.if_icmp .ne 18, 3) := by decide +kernel
theorem d4_30 : decode method_3_code 30 = .ok (.iload 8, 2) := by decide +kernel
theorem d4_32 : decode method_3_code 32 = .ok (.iload 5, 2) := by decide +kernel
theorem d4_34 : decode method_3_code 34 = .ok (.iadd, 1) := by decide +kernel
theorem d4_35 : decode method_3_code 35 = .ok (.istore 8, 2) := by decide +kernel
theorem d4_37 : decode method_3_code 37 = .ok (.iload 5, 2) := by decide +kernel
theorem d4_39 : decode method_3_code 39 = .ok (.ifCond .eq 6, 3) := by decide +kernel
theorem d4_42 : decode method_3_code 42 = .ok (.iconst 1, 1) := by decide +kernel
theorem d4_43 : decode method_3_code 43 = .ok (.istore 9, 2) := by decide +kernel
theorem d4_45 : decode method_3_code 45 = .ok (.iload 6, 2) := by decide +kernel
theorem d4_47 : decode method_3_code 47 = .ok (.iload_n 1, 1) := by decide +kernel
theorem d4_48 : decode method_3_code 48 = .ok (.if_icmp .ne 18, 3) := by decide +kernel
theorem d4_51 : decode method_3_code 51 = .ok (.iload 8, 2) := by decide +kernel
theorem d4_53 : decode method_3_code 53 = .ok (.iload 7, 2) := by decide +kernel
theorem d4_55 : decode method_3_code 55 = .ok (.iadd, 1) := by decide +kernel
theorem d4_56 : decode method_3_code 56 = .ok (.istore 8, 2) := by decide +kernel
theorem d4_58 : decode method_3_code 58 = .ok (.iload 7, 2) := by decide +kernel
theorem d4_60 : decode method_3_code 60 = .ok (.ifCond .eq 6, 3) := by decide +kernel
theorem d4_63 : decode method_3_code 63 = .ok (.iconst 1, 1) := by decide +kernel
theorem d4_64 : decode method_3_code 64 = .ok (.istore 9, 2) := by decide +kernel
theorem d4_66 : decode method_3_code 66 = .ok (.iload 9, 2) := by decide +kernel
theorem d4_68 : decode method_3_code 68 = .ok (.ifCond .ne 9, 3) := by decide +kernel
theorem d4_71 : decode method_3_code 71 = .ok (.dconst 0, 1) := by decide +kernel
theorem d4_72 : decode method_3_code 72 = .ok (.dstore 10, 2) := by decide +kernel
theorem d4_74 : decode method_3_code 74 = .ok (.goto 21, 3) := by decide +kernel
theorem d4_77 : decode method_3_code 77 = .ok (.iload 8, 2) := by decide +kernel
theorem d4_79 : decode method_3_code 79 = .ok (.ifCond .ne 11, 3) := by decide +kernel
theorem d4_82 : decode method_3_code 82 = .ok (.ldc2_w 34, 3) := by decide +kernel
theorem d4_85 : decode method_3_code 85 = .ok (.dstore 10, 2) := by decide +kernel
theorem d4_87 : decode method_3_code 87 = .ok (.goto 8, 3) := by decide +kernel
theorem d4_90 : decode method_3_code 90 = .ok (.iload 8, 2) := by decide +kernel
theorem d4_92 : decode method_3_code 92 = .ok (.i2d, 1) := by decide +kernel
theorem d4_93 : decode method_3_code 93 = .ok (.dstore 10, 2) := by decide +kernel
theorem d4_95 : decode method_3_code 95 = .ok (.aload_n 0, 1) := by decide +kernel
theorem d4_96 : decode method_3_code 96 = .ok (.getfield 16, 3) := by decide +kernel
theorem d4_99 : decode method_3_code 99 = .ok (.iload_n 1, 1) := by decide +kernel
theorem d4_100 : decode method_3_code 100 = .ok (.daload, 1) := by decide +kernel
theorem d4_101 : decode method_3_code 101 = .ok (.dload 10, 2) := by decide +kernel
theorem d4_103 : decode method_3_code 103 = .ok (.dcmp .l, 1) := by decide +kernel
theorem d4_104 : decode method_3_code 104 = .ok (.ifCond .ne 7, 3) := by decide +kernel
theorem d4_107 : decode method_3_code 107 = .ok (.iconst 1, 1) := by decide +kernel
theorem d4_108 : decode method_3_code 108 = .ok (.goto 4, 3) := by decide +kernel
theorem d4_111 : decode method_3_code 111 = .ok (.iconst 0, 1) := by decide +kernel
theorem d4_112 : decode method_3_code 112 = .ok (.ireturn, 1) := by decide +kernel
set_option maxRecDepth 65536 in
set_option maxHeartbeats 40000000 in
theorem own_ent0 {l : Launch} {Z : State} {a0 : Array Value} {h0 : Heap} (hw : ∀ d ∈ tables_1, d.before a0 Z = true) (a b d g : Addr) (w0 w1 w2 w3 : UInt64) (W0 W1 W2 W3 : Int) (hw0 : oSV W0 w0) (hw1 : oSV W1 w1) (hw2 : oSV W2 w2) (hw3 : oSV W3 w3) (x0 x1 x2 x3 nn u0 u1 u2 : Int32) (i1 k1 i2 k2 i3 k3 : Int32) (hk : (-3 ≤ k1.toInt ∧ k1.toInt ≤ 3) ∧ (-3 ≤ k2.toInt ∧ k2.toInt ≤ 3) ∧ -3 ≤ k3.toInt ∧ k3.toInt ≤ 3) :
    oCtr l Z h0 [] (⟨"com/example/lotwise/lotwise/search/SparseVectorAddPinLaw", "entry", "(Lcom/example/lotwise/lotwise/search/SparseVector;IIIIIII)Z"⟩ : MethodName) method_3_code 12 (some .boolean) ({ frames := 0, cells := 0, slots := 0, locals := 0 } : Room) #[(.ref a), (.int (0 : Int32)), (.int i1), (.int k1), (.int i2), (.int k2), (.int i3), (.int k3)] [(a, .inr ("com/example/lotwise/lotwise/search/SparseVector", [("com/example/lotwise/lotwise/search/SparseVector", "values", "[D", (.ref b)), ("com/example/lotwise/lotwise/search/SparseVector", "index", "[I", (.ref d)), ("com/example/lotwise/lotwise/search/SparseVector", "count", "I", (.int nn))])), (b, .inl (.double, [(.double w0), (.double w1), (.double w2), (.double w3)])), (d, .inl (.int, [(.int x0), (.int x1), (.int x2), (.int x3)])), (g, .inl (.int, [(.int u0), (.int u1), (.int u2)]))] (oVal fun w dd => ∃ (r : Int32) (E : Int), w = .int r ∧ (r.toInt = 1 ∧ (W0 = E) ∨ r.toInt = 0 ∧ ¬ (W0 = E)) ∧ oEX 0 i1.toInt k1.toInt i2.toInt k2.toInt i3.toInt k3.toInt E ∧ dd = [(a, .inr ("com/example/lotwise/lotwise/search/SparseVector", [("com/example/lotwise/lotwise/search/SparseVector", "values", "[D", (.ref b)), ("com/example/lotwise/lotwise/search/SparseVector", "index", "[I", (.ref d)), ("com/example/lotwise/lotwise/search/SparseVector", "count", "I", (.int nn))])), (b, .inl (.double, [(.double w0), (.double w1), (.double w2), (.double w3)])), (d, .inl (.int, [(.int x0), (.int x1), (.int x2), (.int x3)])), (g, .inl (.int, [(.int u0), (.int u1), (.int u2)]))]) := by
  refine oCtr.of (Ls := #[.val (.ref a), .val (.int (0 : Int32)), .val (.int i1), .val (.int k1), .val (.int i2), .val (.int k2), .val (.int i3), .val (.int k3), .unset, .unset, .unset, .unset]) (plainFor_of_name (by first | (simp [plainName, overriddenIn]; done) | decide +kernel)) (fun m => by first | (simp [entryFrame, mkF, argsToLocals, Value.category]; done) | rfl) ?_
  intro p e s m below meth c K
  refine oW.iconst (v := (0 : Int32)) (pc' := 1) K d4_0 (by decide) rfl ?_
  refine oW.istore (Ls' := #[.val (.ref a), .val (.int (0 : Int32)), .val (.int i1), .val (.int k1), .val (.int i2), .val (.int k2), .val (.int i3), .val (.int k3), .val (.int (0 : Int32)), .unset, .unset, .unset]) (pc' := 3) K d4_1 rfl rfl ?_
  refine oW.iconst (v := (0 : Int32)) (pc' := 4) K d4_3 (by decide) rfl ?_
  refine oW.istore (Ls' := #[.val (.ref a), .val (.int (0 : Int32)), .val (.int i1), .val (.int k1), .val (.int i2), .val (.int k2), .val (.int i3), .val (.int k3), .val (.int (0 : Int32)), .val (.int (0 : Int32)), .unset, .unset]) (pc' := 6) K d4_4 rfl rfl ?_
  refine oW.join (F := fun z : Int32 × Int32 => oST 0 i1.toInt k1.toInt (0) (0) z.1.toInt z.2.toInt ∧ -3 ≤ z.1.toInt ∧ z.1.toInt ≤ 3) (pcj := 24) (Lf := fun z => #[.val (.ref a), .val (.int (0 : Int32)), .val (.int i1), .val (.int k1), .val (.int i2), .val (.int k2), .val (.int i3), .val (.int k3), .val (.int z.1), .val (.int z.2), .unset, .unset]) (Sf := fun z => []) (dsf := fun z => [(a, .inr ("com/example/lotwise/lotwise/search/SparseVector", [("com/example/lotwise/lotwise/search/SparseVector", "values", "[D", (.ref b)), ("com/example/lotwise/lotwise/search/SparseVector", "index", "[I", (.ref d)), ("com/example/lotwise/lotwise/search/SparseVector", "count", "I", (.int nn))])), (b, .inl (.double, [(.double w0), (.double w1), (.double w2), (.double w3)])), (d, .inl (.int, [(.int x0), (.int x1), (.int x2), (.int x3)])), (g, .inl (.int, [(.int u0), (.int u1), (.int u2)]))]) ?_ ?_
  · intro J
    refine oW.iloadN (pc' := 7) K d4_6 rfl rfl ?_
    refine oW.iloadN (pc' := 8) K d4_7 rfl rfl ?_
    refine oW.icmp_ne (pc' := 24) (pc3 := 11) K d4_8 (by decide) (by decide) rfl (fun c8 => ?_) (fun c8 => ?_)
    · simp only [oLt32, oEq32, Int32.reduceToInt] at c8
      exact J ((0 : Int32), (0 : Int32)) (⟨by unfold oST; dsimp only; first | omega | (have oTs' := oTs; omega) | (simp only [Int32.reduceToInt, Int64.reduceToInt]; omega), by dsimp only; first | omega | (have oTs' := oTs; omega) | (simp only [Int32.reduceToInt, Int64.reduceToInt]; omega)⟩)
    · simp only [oLt32, oEq32, Int32.reduceToInt] at c8
      refine oW.iload (pc' := 13) K d4_11 rfl rfl ?_
      refine oW.iloadN (pc' := 14) K d4_13 rfl rfl ?_
      obtain ⟨v14, ev14⟩ : ∃ z : Int32, z = (0 : Int32) + k1 := ⟨_, rfl⟩
      refine oW.iadd (pc' := 15) K d4_14 ev14 rfl ?_
      have tv14 := oIadd ev14 (by first | omega | (have oTs' := oTs; omega) | (simp only [Int32.reduceToInt, Int64.reduceToInt]; omega))
      try simp only [Int32.reduceToInt, Int64.reduceToInt] at tv14
      refine oW.istore (Ls' := #[.val (.ref a), .val (.int (0 : Int32)), .val (.int i1), .val (.int k1), .val (.int i2), .val (.int k2), .val (.int i3), .val (.int k3), .val (.int v14), .val (.int (0 : Int32)), .unset, .unset]) (pc' := 17) K d4_15 rfl rfl ?_
      refine oW.iloadN (pc' := 18) K d4_17 rfl rfl ?_
      refine oW.if_eq (pc' := 24) (pc3 := 21) K d4_18 (by decide) (by decide) rfl (fun c18 => ?_) (fun c18 => ?_)
      · simp only [oLt32, oEq32, Int32.reduceToInt] at c18
        exact J (v14, (0 : Int32)) (⟨by unfold oST; dsimp only; first | omega | (have oTs' := oTs; omega) | (simp only [Int32.reduceToInt, Int64.reduceToInt]; omega), by dsimp only; first | omega | (have oTs' := oTs; omega) | (simp only [Int32.reduceToInt, Int64.reduceToInt]; omega)⟩)
      · simp only [oLt32, oEq32, Int32.reduceToInt] at c18
        refine oW.iconst (v := (1 : Int32)) (pc' := 22) K d4_21 (by decide) rfl ?_
        refine oW.istore (Ls' := #[.val (.ref a), .val (.int (0 : Int32)), .val (.int i1), .val (.int k1), .val (.int i2), .val (.int k2), .val (.int i3), .val (.int k3), .val (.int v14), .val (.int (1 : Int32)), .unset, .unset]) (pc' := 24) K d4_22 rfl rfl ?_
        exact J (v14, (1 : Int32)) (⟨by unfold oST; dsimp only; first | omega | (have oTs' := oTs; omega) | (simp only [Int32.reduceToInt, Int64.reduceToInt]; omega), by dsimp only; first | omega | (have oTs' := oTs; omega) | (simp only [Int32.reduceToInt, Int64.reduceToInt]; omega)⟩)
  rintro ⟨sm, tc⟩ hsm
  dsimp only at hsm ⊢
  obtain ⟨hsm, bsm⟩ := hsm
  refine oW.join (F := fun z : Int32 × Int32 => oST 0 i2.toInt k2.toInt (sm.toInt) (tc.toInt) z.1.toInt z.2.toInt ∧ -6 ≤ z.1.toInt ∧ z.1.toInt ≤ 6) (pcj := 45) (Lf := fun z => #[.val (.ref a), .val (.int (0 : Int32)), .val (.int i1), .val (.int k1), .val (.int i2), .val (.int k2), .val (.int i3), .val (.int k3), .val (.int z.1), .val (.int z.2), .unset, .unset]) (Sf := fun z => []) (dsf := fun z => [(a, .inr ("com/example/lotwise/lotwise/search/SparseVector", [("com/example/lotwise/lotwise/search/SparseVector", "values", "[D", (.ref b)), ("com/example/lotwise/lotwise/search/SparseVector", "index", "[I", (.ref d)), ("com/example/lotwise/lotwise/search/SparseVector", "count", "I", (.int nn))])), (b, .inl (.double, [(.double w0), (.double w1), (.double w2), (.double w3)])), (d, .inl (.int, [(.int x0), (.int x1), (.int x2), (.int x3)])), (g, .inl (.int, [(.int u0), (.int u1), (.int u2)]))]) ?_ ?_
  · intro J
    refine oW.iload (pc' := 26) K d4_24 rfl rfl ?_
    refine oW.iloadN (pc' := 27) K d4_26 rfl rfl ?_
    refine oW.icmp_ne (pc' := 45) (pc3 := 30) K d4_27 (by decide) (by decide) rfl (fun c27 => ?_) (fun c27 => ?_)
    · simp only [oLt32, oEq32, Int32.reduceToInt] at c27
      exact J (sm, tc) (⟨by unfold oST; dsimp only; first | omega | (have oTs' := oTs; omega) | (simp only [Int32.reduceToInt, Int64.reduceToInt]; omega), by dsimp only; first | omega | (have oTs' := oTs; omega) | (simp only [Int32.reduceToInt, Int64.reduceToInt]; omega)⟩)
    · simp only [oLt32, oEq32, Int32.reduceToInt] at c27
      refine oW.iload (pc' := 32) K d4_30 rfl rfl ?_
      refine oW.iload (pc' := 34) K d4_32 rfl rfl ?_
      obtain ⟨v34, ev34⟩ : ∃ z : Int32, z = sm + k2 := ⟨_, rfl⟩
      refine oW.iadd (pc' := 35) K d4_34 ev34 rfl ?_
      have tv34 := oIadd ev34 (by first | omega | (have oTs' := oTs; omega) | (simp only [Int32.reduceToInt, Int64.reduceToInt]; omega))
      try simp only [Int32.reduceToInt, Int64.reduceToInt] at tv34
      refine oW.istore (Ls' := #[.val (.ref a), .val (.int (0 : Int32)), .val (.int i1), .val (.int k1), .val (.int i2), .val (.int k2), .val (.int i3), .val (.int k3), .val (.int v34), .val (.int tc), .unset, .unset]) (pc' := 37) K d4_35 rfl rfl ?_
      refine oW.iload (pc' := 39) K d4_37 rfl rfl ?_
      refine oW.if_eq (pc' := 45) (pc3 := 42) K d4_39 (by decide) (by decide) rfl (fun c39 => ?_) (fun c39 => ?_)
      · simp only [oLt32, oEq32, Int32.reduceToInt] at c39
        exact J (v34, tc) (⟨by unfold oST; dsimp only; first | omega | (have oTs' := oTs; omega) | (simp only [Int32.reduceToInt, Int64.reduceToInt]; omega), by dsimp only; first | omega | (have oTs' := oTs; omega) | (simp only [Int32.reduceToInt, Int64.reduceToInt]; omega)⟩)
      · simp only [oLt32, oEq32, Int32.reduceToInt] at c39
        refine oW.iconst (v := (1 : Int32)) (pc' := 43) K d4_42 (by decide) rfl ?_
        refine oW.istore (Ls' := #[.val (.ref a), .val (.int (0 : Int32)), .val (.int i1), .val (.int k1), .val (.int i2), .val (.int k2), .val (.int i3), .val (.int k3), .val (.int v34), .val (.int (1 : Int32)), .unset, .unset]) (pc' := 45) K d4_43 rfl rfl ?_
        exact J (v34, (1 : Int32)) (⟨by unfold oST; dsimp only; first | omega | (have oTs' := oTs; omega) | (simp only [Int32.reduceToInt, Int64.reduceToInt]; omega), by dsimp only; first | omega | (have oTs' := oTs; omega) | (simp only [Int32.reduceToInt, Int64.reduceToInt]; omega)⟩)
  rintro ⟨sm_1, tc_1⟩ hsm_1
  dsimp only at hsm_1 ⊢
  obtain ⟨hsm_1, bsm_1⟩ := hsm_1
  refine oW.join (F := fun z : Int32 × Int32 => oST 0 i3.toInt k3.toInt (sm_1.toInt) (tc_1.toInt) z.1.toInt z.2.toInt ∧ -9 ≤ z.1.toInt ∧ z.1.toInt ≤ 9) (pcj := 66) (Lf := fun z => #[.val (.ref a), .val (.int (0 : Int32)), .val (.int i1), .val (.int k1), .val (.int i2), .val (.int k2), .val (.int i3), .val (.int k3), .val (.int z.1), .val (.int z.2), .unset, .unset]) (Sf := fun z => []) (dsf := fun z => [(a, .inr ("com/example/lotwise/lotwise/search/SparseVector", [("com/example/lotwise/lotwise/search/SparseVector", "values", "[D", (.ref b)), ("com/example/lotwise/lotwise/search/SparseVector", "index", "[I", (.ref d)), ("com/example/lotwise/lotwise/search/SparseVector", "count", "I", (.int nn))])), (b, .inl (.double, [(.double w0), (.double w1), (.double w2), (.double w3)])), (d, .inl (.int, [(.int x0), (.int x1), (.int x2), (.int x3)])), (g, .inl (.int, [(.int u0), (.int u1), (.int u2)]))]) ?_ ?_
  · intro J
    refine oW.iload (pc' := 47) K d4_45 rfl rfl ?_
    refine oW.iloadN (pc' := 48) K d4_47 rfl rfl ?_
    refine oW.icmp_ne (pc' := 66) (pc3 := 51) K d4_48 (by decide) (by decide) rfl (fun c48 => ?_) (fun c48 => ?_)
    · simp only [oLt32, oEq32, Int32.reduceToInt] at c48
      exact J (sm_1, tc_1) (⟨by unfold oST; dsimp only; first | omega | (have oTs' := oTs; omega) | (simp only [Int32.reduceToInt, Int64.reduceToInt]; omega), by dsimp only; first | omega | (have oTs' := oTs; omega) | (simp only [Int32.reduceToInt, Int64.reduceToInt]; omega)⟩)
    · simp only [oLt32, oEq32, Int32.reduceToInt] at c48
      refine oW.iload (pc' := 53) K d4_51 rfl rfl ?_
      refine oW.iload (pc' := 55) K d4_53 rfl rfl ?_
      obtain ⟨v55, ev55⟩ : ∃ z : Int32, z = sm_1 + k3 := ⟨_, rfl⟩
      refine oW.iadd (pc' := 56) K d4_55 ev55 rfl ?_
      have tv55 := oIadd ev55 (by first | omega | (have oTs' := oTs; omega) | (simp only [Int32.reduceToInt, Int64.reduceToInt]; omega))
      try simp only [Int32.reduceToInt, Int64.reduceToInt] at tv55
      refine oW.istore (Ls' := #[.val (.ref a), .val (.int (0 : Int32)), .val (.int i1), .val (.int k1), .val (.int i2), .val (.int k2), .val (.int i3), .val (.int k3), .val (.int v55), .val (.int tc_1), .unset, .unset]) (pc' := 58) K d4_56 rfl rfl ?_
      refine oW.iload (pc' := 60) K d4_58 rfl rfl ?_
      refine oW.if_eq (pc' := 66) (pc3 := 63) K d4_60 (by decide) (by decide) rfl (fun c60 => ?_) (fun c60 => ?_)
      · simp only [oLt32, oEq32, Int32.reduceToInt] at c60
        exact J (v55, tc_1) (⟨by unfold oST; dsimp only; first | omega | (have oTs' := oTs; omega) | (simp only [Int32.reduceToInt, Int64.reduceToInt]; omega), by dsimp only; first | omega | (have oTs' := oTs; omega) | (simp only [Int32.reduceToInt, Int64.reduceToInt]; omega)⟩)
      · simp only [oLt32, oEq32, Int32.reduceToInt] at c60
        refine oW.iconst (v := (1 : Int32)) (pc' := 64) K d4_63 (by decide) rfl ?_
        refine oW.istore (Ls' := #[.val (.ref a), .val (.int (0 : Int32)), .val (.int i1), .val (.int k1), .val (.int i2), .val (.int k2), .val (.int i3), .val (.int k3), .val (.int v55), .val (.int (1 : Int32)), .unset, .unset]) (pc' := 66) K d4_64 rfl rfl ?_
        exact J (v55, (1 : Int32)) (⟨by unfold oST; dsimp only; first | omega | (have oTs' := oTs; omega) | (simp only [Int32.reduceToInt, Int64.reduceToInt]; omega), by dsimp only; first | omega | (have oTs' := oTs; omega) | (simp only [Int32.reduceToInt, Int64.reduceToInt]; omega)⟩)
  rintro ⟨sm_2, tc_2⟩ hsm_2
  dsimp only at hsm_2 ⊢
  obtain ⟨hsm_2, bsm_2⟩ := hsm_2
  refine oW.join (F := fun z : UInt64 => ∃ E : Int, oSV E z ∧ ((tc_2.toInt = 0 ∧ E = 0) ∨ (tc_2.toInt ≠ 0 ∧ sm_2.toInt = 0 ∧ E = 1000) ∨ (tc_2.toInt ≠ 0 ∧ sm_2.toInt ≠ 0 ∧ E = sm_2.toInt))) (pcj := 95) (Lf := fun z => #[.val (.ref a), .val (.int (0 : Int32)), .val (.int i1), .val (.int k1), .val (.int i2), .val (.int k2), .val (.int i3), .val (.int k3), .val (.int sm_2), .val (.int tc_2), .val (.double z), .second]) (Sf := fun z => []) (dsf := fun z => [(a, .inr ("com/example/lotwise/lotwise/search/SparseVector", [("com/example/lotwise/lotwise/search/SparseVector", "values", "[D", (.ref b)), ("com/example/lotwise/lotwise/search/SparseVector", "index", "[I", (.ref d)), ("com/example/lotwise/lotwise/search/SparseVector", "count", "I", (.int nn))])), (b, .inl (.double, [(.double w0), (.double w1), (.double w2), (.double w3)])), (d, .inl (.int, [(.int x0), (.int x1), (.int x2), (.int x3)])), (g, .inl (.int, [(.int u0), (.int u1), (.int u2)]))]) ?_ ?_
  · intro J
    refine oW.iload (pc' := 68) K d4_66 rfl rfl ?_
    refine oW.if_ne (pc' := 77) (pc3 := 71) K d4_68 (by decide) (by decide) rfl (fun c68 => ?_) (fun c68 => ?_)
    · simp only [oLt32, oEq32, Int32.reduceToInt] at c68
      refine oW.iload (pc' := 79) K d4_77 rfl rfl ?_
      refine oW.if_ne (pc' := 90) (pc3 := 82) K d4_79 (by decide) (by decide) rfl (fun c79 => ?_) (fun c79 => ?_)
      · simp only [oLt32, oEq32, Int32.reduceToInt] at c79
        refine oW.iload (pc' := 92) K d4_90 rfl rfl ?_
        obtain ⟨v92, ev92⟩ : ∃ z : UInt64, z = FP.i2d sm_2 := ⟨_, rfl⟩
        have dv92 : FP.Core.DInt (sm_2).toInt v92 := oI2D ev92
        have sv92 : oSV (sm_2.toInt) v92 := oSV.of dv92 (by first | omega | (have oTs' := oTs; omega) | (simp only [Int32.reduceToInt, Int64.reduceToInt]; omega))
        refine oW.i2d (pc' := 93) K d4_92 ev92 rfl ?_
        refine oW.dstore (Ls' := #[.val (.ref a), .val (.int (0 : Int32)), .val (.int i1), .val (.int k1), .val (.int i2), .val (.int k2), .val (.int i3), .val (.int k3), .val (.int sm_2), .val (.int tc_2), .val (.double v92), .second]) (pc' := 95) K d4_93 rfl rfl ?_
        exact J v92 (⟨_, sv92, by first | omega | (have oTs' := oTs; omega) | (simp only [Int32.reduceToInt, Int64.reduceToInt]; omega)⟩)
      · simp only [oLt32, oEq32, Int32.reduceToInt] at c79
        refine oW.ldc2D (pc' := 85) K (hw _ (List.mem_of_getElem? (i := 30) rfl)) d4_82 rfl ?_
        refine oW.dstore (Ls' := #[.val (.ref a), .val (.int (0 : Int32)), .val (.int i1), .val (.int k1), .val (.int i2), .val (.int k2), .val (.int i3), .val (.int k3), .val (.int sm_2), .val (.int tc_2), .val (.double (118622047889322841 : UInt64)), .second]) (pc' := 87) K d4_85 rfl rfl ?_
        refine oW.goto (pc' := 95) K d4_87 (by decide) (by decide) ?_
        exact J (118622047889322841 : UInt64) (⟨_, oSV.tiny, by first | omega | (have oTs' := oTs; omega) | (simp only [Int32.reduceToInt, Int64.reduceToInt]; omega)⟩)
    · simp only [oLt32, oEq32, Int32.reduceToInt] at c68
      refine oW.dconst0 (pc' := 72) K d4_71 rfl ?_
      refine oW.dstore (Ls' := #[.val (.ref a), .val (.int (0 : Int32)), .val (.int i1), .val (.int k1), .val (.int i2), .val (.int k2), .val (.int i3), .val (.int k3), .val (.int sm_2), .val (.int tc_2), .val (.double (0 : UInt64)), .second]) (pc' := 74) K d4_72 rfl rfl ?_
      refine oW.goto (pc' := 95) K d4_74 (by decide) (by decide) ?_
      exact J (0 : UInt64) (⟨_, (oSV.of (oDK 0 (by decide +kernel) (by decide)) (by first | omega | (have oTs' := oTs; omega) | (simp only [Int32.reduceToInt, Int64.reduceToInt]; omega))), by first | omega | (have oTs' := oTs; omega) | (simp only [Int32.reduceToInt, Int64.reduceToInt]; omega)⟩)
  intro wt hwt
  obtain ⟨E, sE, hE⟩ := hwt
  refine oW.aloadN (pc' := 96) K d4_95 rfl rfl rfl ?_
  refine oW.getf (i := 0) (q := 0) (pc' := 99) K (hw _ (List.mem_of_getElem? (i := 22) rfl)) d4_96 rfl rfl rfl ?_
  refine oW.iloadN (pc' := 100) K d4_99 rfl rfl ?_
  refine oW.daload (i := 1) (k := 0) (pc' := 101) K d4_100 rfl rfl (by decide) rfl rfl ?_
  refine oW.dload (pc' := 103) K d4_101 rfl rfl ?_
  obtain ⟨v103, ev103⟩ : ∃ z : Int32, z = cmpValue (FP.dcmp w0 wt) .l := ⟨_, rfl⟩
  refine oW.dcmp (pc' := 104) K d4_103 ev103 rfl ?_
  refine oW.if_ne (pc' := 111) (pc3 := 107) K d4_104 (by decide) (by decide) rfl (fun c104 => ?_) (fun c104 => ?_)
  · rw [oSV_eq hw0 sE ev103] at c104
    refine oW.iconst (v := (0 : Int32)) (pc' := 112) K d4_111 (by decide) rfl ?_
    exact oW.retB K rfl d4_112 (by decide) (by decide) ⟨_, rfl, 0, E, rfl, by first | omega | (have oTs' := oTs; omega) | (simp only [Int32.reduceToInt, Int64.reduceToInt]; omega), ⟨_, _, _, _, _, _, hsm, hsm_1, hsm_2, hE⟩, rfl⟩
  · rw [oSV_eq hw0 sE ev103] at c104
    refine oW.iconst (v := (1 : Int32)) (pc' := 108) K d4_107 (by decide) rfl ?_
    refine oW.goto (pc' := 112) K d4_108 (by decide) (by decide) ?_
    exact oW.retB K rfl d4_112 (by decide) (by decide) ⟨_, rfl, 1, E, rfl, by first | omega | (have oTs' := oTs; omega) | (simp only [Int32.reduceToInt, Int64.reduceToInt]; omega), ⟨_, _, _, _, _, _, hsm, hsm_1, hsm_2, hE⟩, rfl⟩
set_option maxRecDepth 65536 in
set_option maxHeartbeats 40000000 in
theorem own_ent1 {l : Launch} {Z : State} {a0 : Array Value} {h0 : Heap} (hw : ∀ d ∈ tables_1, d.before a0 Z = true) (a b d g : Addr) (w0 w1 w2 w3 : UInt64) (W0 W1 W2 W3 : Int) (hw0 : oSV W0 w0) (hw1 : oSV W1 w1) (hw2 : oSV W2 w2) (hw3 : oSV W3 w3) (x0 x1 x2 x3 nn u0 u1 u2 : Int32) (i1 k1 i2 k2 i3 k3 : Int32) (hk : (-3 ≤ k1.toInt ∧ k1.toInt ≤ 3) ∧ (-3 ≤ k2.toInt ∧ k2.toInt ≤ 3) ∧ -3 ≤ k3.toInt ∧ k3.toInt ≤ 3) :
    oCtr l Z h0 [] (⟨"com/example/lotwise/lotwise/search/SparseVectorAddPinLaw", "entry", "(Lcom/example/lotwise/lotwise/search/SparseVector;IIIIIII)Z"⟩ : MethodName) method_3_code 12 (some .boolean) ({ frames := 0, cells := 0, slots := 0, locals := 0 } : Room) #[(.ref a), (.int (1 : Int32)), (.int i1), (.int k1), (.int i2), (.int k2), (.int i3), (.int k3)] [(a, .inr ("com/example/lotwise/lotwise/search/SparseVector", [("com/example/lotwise/lotwise/search/SparseVector", "values", "[D", (.ref b)), ("com/example/lotwise/lotwise/search/SparseVector", "index", "[I", (.ref d)), ("com/example/lotwise/lotwise/search/SparseVector", "count", "I", (.int nn))])), (b, .inl (.double, [(.double w0), (.double w1), (.double w2), (.double w3)])), (d, .inl (.int, [(.int x0), (.int x1), (.int x2), (.int x3)])), (g, .inl (.int, [(.int u0), (.int u1), (.int u2)]))] (oVal fun w dd => ∃ (r : Int32) (E : Int), w = .int r ∧ (r.toInt = 1 ∧ (W1 = E) ∨ r.toInt = 0 ∧ ¬ (W1 = E)) ∧ oEX 1 i1.toInt k1.toInt i2.toInt k2.toInt i3.toInt k3.toInt E ∧ dd = [(a, .inr ("com/example/lotwise/lotwise/search/SparseVector", [("com/example/lotwise/lotwise/search/SparseVector", "values", "[D", (.ref b)), ("com/example/lotwise/lotwise/search/SparseVector", "index", "[I", (.ref d)), ("com/example/lotwise/lotwise/search/SparseVector", "count", "I", (.int nn))])), (b, .inl (.double, [(.double w0), (.double w1), (.double w2), (.double w3)])), (d, .inl (.int, [(.int x0), (.int x1), (.int x2), (.int x3)])), (g, .inl (.int, [(.int u0), (.int u1), (.int u2)]))]) := by
  refine oCtr.of (Ls := #[.val (.ref a), .val (.int (1 : Int32)), .val (.int i1), .val (.int k1), .val (.int i2), .val (.int k2), .val (.int i3), .val (.int k3), .unset, .unset, .unset, .unset]) (plainFor_of_name (by first | (simp [plainName, overriddenIn]; done) | decide +kernel)) (fun m => by first | (simp [entryFrame, mkF, argsToLocals, Value.category]; done) | rfl) ?_
  intro p e s m below meth c K
  refine oW.iconst (v := (0 : Int32)) (pc' := 1) K d4_0 (by decide) rfl ?_
  refine oW.istore (Ls' := #[.val (.ref a), .val (.int (1 : Int32)), .val (.int i1), .val (.int k1), .val (.int i2), .val (.int k2), .val (.int i3), .val (.int k3), .val (.int (0 : Int32)), .unset, .unset, .unset]) (pc' := 3) K d4_1 rfl rfl ?_
  refine oW.iconst (v := (0 : Int32)) (pc' := 4) K d4_3 (by decide) rfl ?_
  refine oW.istore (Ls' := #[.val (.ref a), .val (.int (1 : Int32)), .val (.int i1), .val (.int k1), .val (.int i2), .val (.int k2), .val (.int i3), .val (.int k3), .val (.int (0 : Int32)), .val (.int (0 : Int32)), .unset, .unset]) (pc' := 6) K d4_4 rfl rfl ?_
  refine oW.join (F := fun z : Int32 × Int32 => oST 1 i1.toInt k1.toInt (0) (0) z.1.toInt z.2.toInt ∧ -3 ≤ z.1.toInt ∧ z.1.toInt ≤ 3) (pcj := 24) (Lf := fun z => #[.val (.ref a), .val (.int (1 : Int32)), .val (.int i1), .val (.int k1), .val (.int i2), .val (.int k2), .val (.int i3), .val (.int k3), .val (.int z.1), .val (.int z.2), .unset, .unset]) (Sf := fun z => []) (dsf := fun z => [(a, .inr ("com/example/lotwise/lotwise/search/SparseVector", [("com/example/lotwise/lotwise/search/SparseVector", "values", "[D", (.ref b)), ("com/example/lotwise/lotwise/search/SparseVector", "index", "[I", (.ref d)), ("com/example/lotwise/lotwise/search/SparseVector", "count", "I", (.int nn))])), (b, .inl (.double, [(.double w0), (.double w1), (.double w2), (.double w3)])), (d, .inl (.int, [(.int x0), (.int x1), (.int x2), (.int x3)])), (g, .inl (.int, [(.int u0), (.int u1), (.int u2)]))]) ?_ ?_
  · intro J
    refine oW.iloadN (pc' := 7) K d4_6 rfl rfl ?_
    refine oW.iloadN (pc' := 8) K d4_7 rfl rfl ?_
    refine oW.icmp_ne (pc' := 24) (pc3 := 11) K d4_8 (by decide) (by decide) rfl (fun c8 => ?_) (fun c8 => ?_)
    · simp only [oLt32, oEq32, Int32.reduceToInt] at c8
      exact J ((0 : Int32), (0 : Int32)) (⟨by unfold oST; dsimp only; first | omega | (have oTs' := oTs; omega) | (simp only [Int32.reduceToInt, Int64.reduceToInt]; omega), by dsimp only; first | omega | (have oTs' := oTs; omega) | (simp only [Int32.reduceToInt, Int64.reduceToInt]; omega)⟩)
    · simp only [oLt32, oEq32, Int32.reduceToInt] at c8
      refine oW.iload (pc' := 13) K d4_11 rfl rfl ?_
      refine oW.iloadN (pc' := 14) K d4_13 rfl rfl ?_
      obtain ⟨v14, ev14⟩ : ∃ z : Int32, z = (0 : Int32) + k1 := ⟨_, rfl⟩
      refine oW.iadd (pc' := 15) K d4_14 ev14 rfl ?_
      have tv14 := oIadd ev14 (by first | omega | (have oTs' := oTs; omega) | (simp only [Int32.reduceToInt, Int64.reduceToInt]; omega))
      try simp only [Int32.reduceToInt, Int64.reduceToInt] at tv14
      refine oW.istore (Ls' := #[.val (.ref a), .val (.int (1 : Int32)), .val (.int i1), .val (.int k1), .val (.int i2), .val (.int k2), .val (.int i3), .val (.int k3), .val (.int v14), .val (.int (0 : Int32)), .unset, .unset]) (pc' := 17) K d4_15 rfl rfl ?_
      refine oW.iloadN (pc' := 18) K d4_17 rfl rfl ?_
      refine oW.if_eq (pc' := 24) (pc3 := 21) K d4_18 (by decide) (by decide) rfl (fun c18 => ?_) (fun c18 => ?_)
      · simp only [oLt32, oEq32, Int32.reduceToInt] at c18
        exact J (v14, (0 : Int32)) (⟨by unfold oST; dsimp only; first | omega | (have oTs' := oTs; omega) | (simp only [Int32.reduceToInt, Int64.reduceToInt]; omega), by dsimp only; first | omega | (have oTs' := oTs; omega) | (simp only [Int32.reduceToInt, Int64.reduceToInt]; omega)⟩)
      · simp only [oLt32, oEq32, Int32.reduceToInt] at c18
        refine oW.iconst (v := (1 : Int32)) (pc' := 22) K d4_21 (by decide) rfl ?_
        refine oW.istore (Ls' := #[.val (.ref a), .val (.int (1 : Int32)), .val (.int i1), .val (.int k1), .val (.int i2), .val (.int k2), .val (.int i3), .val (.int k3), .val (.int v14), .val (.int (1 : Int32)), .unset, .unset]) (pc' := 24) K d4_22 rfl rfl ?_
        exact J (v14, (1 : Int32)) (⟨by unfold oST; dsimp only; first | omega | (have oTs' := oTs; omega) | (simp only [Int32.reduceToInt, Int64.reduceToInt]; omega), by dsimp only; first | omega | (have oTs' := oTs; omega) | (simp only [Int32.reduceToInt, Int64.reduceToInt]; omega)⟩)
  rintro ⟨sm, tc⟩ hsm
  dsimp only at hsm ⊢
  obtain ⟨hsm, bsm⟩ := hsm
  refine oW.join (F := fun z : Int32 × Int32 => oST 1 i2.toInt k2.toInt (sm.toInt) (tc.toInt) z.1.toInt z.2.toInt ∧ -6 ≤ z.1.toInt ∧ z.1.toInt ≤ 6) (pcj := 45) (Lf := fun z => #[.val (.ref a), .val (.int (1 : Int32)), .val (.int i1), .val (.int k1), .val (.int i2), .val (.int k2), .val (.int i3), .val (.int k3), .val (.int z.1), .val (.int z.2), .unset, .unset]) (Sf := fun z => []) (dsf := fun z => [(a, .inr ("com/example/lotwise/lotwise/search/SparseVector", [("com/example/lotwise/lotwise/search/SparseVector", "values", "[D", (.ref b)), ("com/example/lotwise/lotwise/search/SparseVector", "index", "[I", (.ref d)), ("com/example/lotwise/lotwise/search/SparseVector", "count", "I", (.int nn))])), (b, .inl (.double, [(.double w0), (.double w1), (.double w2), (.double w3)])), (d, .inl (.int, [(.int x0), (.int x1), (.int x2), (.int x3)])), (g, .inl (.int, [(.int u0), (.int u1), (.int u2)]))]) ?_ ?_
  · intro J
    refine oW.iload (pc' := 26) K d4_24 rfl rfl ?_
    refine oW.iloadN (pc' := 27) K d4_26 rfl rfl ?_
    refine oW.icmp_ne (pc' := 45) (pc3 := 30) K d4_27 (by decide) (by decide) rfl (fun c27 => ?_) (fun c27 => ?_)
    · simp only [oLt32, oEq32, Int32.reduceToInt] at c27
      exact J (sm, tc) (⟨by unfold oST; dsimp only; first | omega | (have oTs' := oTs; omega) | (simp only [Int32.reduceToInt, Int64.reduceToInt]; omega), by dsimp only; first | omega | (have oTs' := oTs; omega) | (simp only [Int32.reduceToInt, Int64.reduceToInt]; omega)⟩)
    · simp only [oLt32, oEq32, Int32.reduceToInt] at c27
      refine oW.iload (pc' := 32) K d4_30 rfl rfl ?_
      refine oW.iload (pc' := 34) K d4_32 rfl rfl ?_
      obtain ⟨v34, ev34⟩ : ∃ z : Int32, z = sm + k2 := ⟨_, rfl⟩
      refine oW.iadd (pc' := 35) K d4_34 ev34 rfl ?_
      have tv34 := oIadd ev34 (by first | omega | (have oTs' := oTs; omega) | (simp only [Int32.reduceToInt, Int64.reduceToInt]; omega))
      try simp only [Int32.reduceToInt, Int64.reduceToInt] at tv34
      refine oW.istore (Ls' := #[.val (.ref a), .val (.int (1 : Int32)), .val (.int i1), .val (.int k1), .val (.int i2), .val (.int k2), .val (.int i3), .val (.int k3), .val (.int v34), .val (.int tc), .unset, .unset]) (pc' := 37) K d4_35 rfl rfl ?_
      refine oW.iload (pc' := 39) K d4_37 rfl rfl ?_
      refine oW.if_eq (pc' := 45) (pc3 := 42) K d4_39 (by decide) (by decide) rfl (fun c39 => ?_) (fun c39 => ?_)
      · simp only [oLt32, oEq32, Int32.reduceToInt] at c39
        exact J (v34, tc) (⟨by unfold oST; dsimp only; first | omega | (have oTs' := oTs; omega) | (simp only [Int32.reduceToInt, Int64.reduceToInt]; omega), by dsimp only; first | omega | (have oTs' := oTs; omega) | (simp only [Int32.reduceToInt, Int64.reduceToInt]; omega)⟩)
      · simp only [oLt32, oEq32, Int32.reduceToInt] at c39
        refine oW.iconst (v := (1 : Int32)) (pc' := 43) K d4_42 (by decide) rfl ?_
        refine oW.istore (Ls' := #[.val (.ref a), .val (.int (1 : Int32)), .val (.int i1), .val (.int k1), .val (.int i2), .val (.int k2), .val (.int i3), .val (.int k3), .val (.int v34), .val (.int (1 : Int32)), .unset, .unset]) (pc' := 45) K d4_43 rfl rfl ?_
        exact J (v34, (1 : Int32)) (⟨by unfold oST; dsimp only; first | omega | (have oTs' := oTs; omega) | (simp only [Int32.reduceToInt, Int64.reduceToInt]; omega), by dsimp only; first | omega | (have oTs' := oTs; omega) | (simp only [Int32.reduceToInt, Int64.reduceToInt]; omega)⟩)
  rintro ⟨sm_1, tc_1⟩ hsm_1
  dsimp only at hsm_1 ⊢
  obtain ⟨hsm_1, bsm_1⟩ := hsm_1
  refine oW.join (F := fun z : Int32 × Int32 => oST 1 i3.toInt k3.toInt (sm_1.toInt) (tc_1.toInt) z.1.toInt z.2.toInt ∧ -9 ≤ z.1.toInt ∧ z.1.toInt ≤ 9) (pcj := 66) (Lf := fun z => #[.val (.ref a), .val (.int (1 : Int32)), .val (.int i1), .val (.int k1), .val (.int i2), .val (.int k2), .val (.int i3), .val (.int k3), .val (.int z.1), .val (.int z.2), .unset, .unset]) (Sf := fun z => []) (dsf := fun z => [(a, .inr ("com/example/lotwise/lotwise/search/SparseVector", [("com/example/lotwise/lotwise/search/SparseVector", "values", "[D", (.ref b)), ("com/example/lotwise/lotwise/search/SparseVector", "index", "[I", (.ref d)), ("com/example/lotwise/lotwise/search/SparseVector", "count", "I", (.int nn))])), (b, .inl (.double, [(.double w0), (.double w1), (.double w2), (.double w3)])), (d, .inl (.int, [(.int x0), (.int x1), (.int x2), (.int x3)])), (g, .inl (.int, [(.int u0), (.int u1), (.int u2)]))]) ?_ ?_
  · intro J
    refine oW.iload (pc' := 47) K d4_45 rfl rfl ?_
    refine oW.iloadN (pc' := 48) K d4_47 rfl rfl ?_
    refine oW.icmp_ne (pc' := 66) (pc3 := 51) K d4_48 (by decide) (by decide) rfl (fun c48 => ?_) (fun c48 => ?_)
    · simp only [oLt32, oEq32, Int32.reduceToInt] at c48
      exact J (sm_1, tc_1) (⟨by unfold oST; dsimp only; first | omega | (have oTs' := oTs; omega) | (simp only [Int32.reduceToInt, Int64.reduceToInt]; omega), by dsimp only; first | omega | (have oTs' := oTs; omega) | (simp only [Int32.reduceToInt, Int64.reduceToInt]; omega)⟩)
    · simp only [oLt32, oEq32, Int32.reduceToInt] at c48
      refine oW.iload (pc' := 53) K d4_51 rfl rfl ?_
      refine oW.iload (pc' := 55) K d4_53 rfl rfl ?_
      obtain ⟨v55, ev55⟩ : ∃ z : Int32, z = sm_1 + k3 := ⟨_, rfl⟩
      refine oW.iadd (pc' := 56) K d4_55 ev55 rfl ?_
      have tv55 := oIadd ev55 (by first | omega | (have oTs' := oTs; omega) | (simp only [Int32.reduceToInt, Int64.reduceToInt]; omega))
      try simp only [Int32.reduceToInt, Int64.reduceToInt] at tv55
      refine oW.istore (Ls' := #[.val (.ref a), .val (.int (1 : Int32)), .val (.int i1), .val (.int k1), .val (.int i2), .val (.int k2), .val (.int i3), .val (.int k3), .val (.int v55), .val (.int tc_1), .unset, .unset]) (pc' := 58) K d4_56 rfl rfl ?_
      refine oW.iload (pc' := 60) K d4_58 rfl rfl ?_
      refine oW.if_eq (pc' := 66) (pc3 := 63) K d4_60 (by decide) (by decide) rfl (fun c60 => ?_) (fun c60 => ?_)
      · simp only [oLt32, oEq32, Int32.reduceToInt] at c60
        exact J (v55, tc_1) (⟨by unfold oST; dsimp only; first | omega | (have oTs' := oTs; omega) | (simp only [Int32.reduceToInt, Int64.reduceToInt]; omega), by dsimp only; first | omega | (have oTs' := oTs; omega) | (simp only [Int32.reduceToInt, Int64.reduceToInt]; omega)⟩)
      · simp only [oLt32, oEq32, Int32.reduceToInt] at c60
        refine oW.iconst (v := (1 : Int32)) (pc' := 64) K d4_63 (by decide) rfl ?_
        refine oW.istore (Ls' := #[.val (.ref a), .val (.int (1 : Int32)), .val (.int i1), .val (.int k1), .val (.int i2), .val (.int k2), .val (.int i3), .val (.int k3), .val (.int v55), .val (.int (1 : Int32)), .unset, .unset]) (pc' := 66) K d4_64 rfl rfl ?_
        exact J (v55, (1 : Int32)) (⟨by unfold oST; dsimp only; first | omega | (have oTs' := oTs; omega) | (simp only [Int32.reduceToInt, Int64.reduceToInt]; omega), by dsimp only; first | omega | (have oTs' := oTs; omega) | (simp only [Int32.reduceToInt, Int64.reduceToInt]; omega)⟩)
  rintro ⟨sm_2, tc_2⟩ hsm_2
  dsimp only at hsm_2 ⊢
  obtain ⟨hsm_2, bsm_2⟩ := hsm_2
  refine oW.join (F := fun z : UInt64 => ∃ E : Int, oSV E z ∧ ((tc_2.toInt = 0 ∧ E = 0) ∨ (tc_2.toInt ≠ 0 ∧ sm_2.toInt = 0 ∧ E = 1000) ∨ (tc_2.toInt ≠ 0 ∧ sm_2.toInt ≠ 0 ∧ E = sm_2.toInt))) (pcj := 95) (Lf := fun z => #[.val (.ref a), .val (.int (1 : Int32)), .val (.int i1), .val (.int k1), .val (.int i2), .val (.int k2), .val (.int i3), .val (.int k3), .val (.int sm_2), .val (.int tc_2), .val (.double z), .second]) (Sf := fun z => []) (dsf := fun z => [(a, .inr ("com/example/lotwise/lotwise/search/SparseVector", [("com/example/lotwise/lotwise/search/SparseVector", "values", "[D", (.ref b)), ("com/example/lotwise/lotwise/search/SparseVector", "index", "[I", (.ref d)), ("com/example/lotwise/lotwise/search/SparseVector", "count", "I", (.int nn))])), (b, .inl (.double, [(.double w0), (.double w1), (.double w2), (.double w3)])), (d, .inl (.int, [(.int x0), (.int x1), (.int x2), (.int x3)])), (g, .inl (.int, [(.int u0), (.int u1), (.int u2)]))]) ?_ ?_
  · intro J
    refine oW.iload (pc' := 68) K d4_66 rfl rfl ?_
    refine oW.if_ne (pc' := 77) (pc3 := 71) K d4_68 (by decide) (by decide) rfl (fun c68 => ?_) (fun c68 => ?_)
    · simp only [oLt32, oEq32, Int32.reduceToInt] at c68
      refine oW.iload (pc' := 79) K d4_77 rfl rfl ?_
      refine oW.if_ne (pc' := 90) (pc3 := 82) K d4_79 (by decide) (by decide) rfl (fun c79 => ?_) (fun c79 => ?_)
      · simp only [oLt32, oEq32, Int32.reduceToInt] at c79
        refine oW.iload (pc' := 92) K d4_90 rfl rfl ?_
        obtain ⟨v92, ev92⟩ : ∃ z : UInt64, z = FP.i2d sm_2 := ⟨_, rfl⟩
        have dv92 : FP.Core.DInt (sm_2).toInt v92 := oI2D ev92
        have sv92 : oSV (sm_2.toInt) v92 := oSV.of dv92 (by first | omega | (have oTs' := oTs; omega) | (simp only [Int32.reduceToInt, Int64.reduceToInt]; omega))
        refine oW.i2d (pc' := 93) K d4_92 ev92 rfl ?_
        refine oW.dstore (Ls' := #[.val (.ref a), .val (.int (1 : Int32)), .val (.int i1), .val (.int k1), .val (.int i2), .val (.int k2), .val (.int i3), .val (.int k3), .val (.int sm_2), .val (.int tc_2), .val (.double v92), .second]) (pc' := 95) K d4_93 rfl rfl ?_
        exact J v92 (⟨_, sv92, by first | omega | (have oTs' := oTs; omega) | (simp only [Int32.reduceToInt, Int64.reduceToInt]; omega)⟩)
      · simp only [oLt32, oEq32, Int32.reduceToInt] at c79
        refine oW.ldc2D (pc' := 85) K (hw _ (List.mem_of_getElem? (i := 30) rfl)) d4_82 rfl ?_
        refine oW.dstore (Ls' := #[.val (.ref a), .val (.int (1 : Int32)), .val (.int i1), .val (.int k1), .val (.int i2), .val (.int k2), .val (.int i3), .val (.int k3), .val (.int sm_2), .val (.int tc_2), .val (.double (118622047889322841 : UInt64)), .second]) (pc' := 87) K d4_85 rfl rfl ?_
        refine oW.goto (pc' := 95) K d4_87 (by decide) (by decide) ?_
        exact J (118622047889322841 : UInt64) (⟨_, oSV.tiny, by first | omega | (have oTs' := oTs; omega) | (simp only [Int32.reduceToInt, Int64.reduceToInt]; omega)⟩)
    · simp only [oLt32, oEq32, Int32.reduceToInt] at c68
      refine oW.dconst0 (pc' := 72) K d4_71 rfl ?_
      refine oW.dstore (Ls' := #[.val (.ref a), .val (.int (1 : Int32)), .val (.int i1), .val (.int k1), .val (.int i2), .val (.int k2), .val (.int i3), .val (.int k3), .val (.int sm_2), .val (.int tc_2), .val (.double (0 : UInt64)), .second]) (pc' := 74) K d4_72 rfl rfl ?_
      refine oW.goto (pc' := 95) K d4_74 (by decide) (by decide) ?_
      exact J (0 : UInt64) (⟨_, (oSV.of (oDK 0 (by decide +kernel) (by decide)) (by first | omega | (have oTs' := oTs; omega) | (simp only [Int32.reduceToInt, Int64.reduceToInt]; omega))), by first | omega | (have oTs' := oTs; omega) | (simp only [Int32.reduceToInt, Int64.reduceToInt]; omega)⟩)
  intro wt hwt
  obtain ⟨E, sE, hE⟩ := hwt
  refine oW.aloadN (pc' := 96) K d4_95 rfl rfl rfl ?_
  refine oW.getf (i := 0) (q := 0) (pc' := 99) K (hw _ (List.mem_of_getElem? (i := 22) rfl)) d4_96 rfl rfl rfl ?_
  refine oW.iloadN (pc' := 100) K d4_99 rfl rfl ?_
  refine oW.daload (i := 1) (k := 1) (pc' := 101) K d4_100 rfl rfl (by decide) rfl rfl ?_
  refine oW.dload (pc' := 103) K d4_101 rfl rfl ?_
  obtain ⟨v103, ev103⟩ : ∃ z : Int32, z = cmpValue (FP.dcmp w1 wt) .l := ⟨_, rfl⟩
  refine oW.dcmp (pc' := 104) K d4_103 ev103 rfl ?_
  refine oW.if_ne (pc' := 111) (pc3 := 107) K d4_104 (by decide) (by decide) rfl (fun c104 => ?_) (fun c104 => ?_)
  · rw [oSV_eq hw1 sE ev103] at c104
    refine oW.iconst (v := (0 : Int32)) (pc' := 112) K d4_111 (by decide) rfl ?_
    exact oW.retB K rfl d4_112 (by decide) (by decide) ⟨_, rfl, 0, E, rfl, by first | omega | (have oTs' := oTs; omega) | (simp only [Int32.reduceToInt, Int64.reduceToInt]; omega), ⟨_, _, _, _, _, _, hsm, hsm_1, hsm_2, hE⟩, rfl⟩
  · rw [oSV_eq hw1 sE ev103] at c104
    refine oW.iconst (v := (1 : Int32)) (pc' := 108) K d4_107 (by decide) rfl ?_
    refine oW.goto (pc' := 112) K d4_108 (by decide) (by decide) ?_
    exact oW.retB K rfl d4_112 (by decide) (by decide) ⟨_, rfl, 1, E, rfl, by first | omega | (have oTs' := oTs; omega) | (simp only [Int32.reduceToInt, Int64.reduceToInt]; omega), ⟨_, _, _, _, _, _, hsm, hsm_1, hsm_2, hE⟩, rfl⟩
set_option maxRecDepth 65536 in
set_option maxHeartbeats 40000000 in
theorem own_ent2 {l : Launch} {Z : State} {a0 : Array Value} {h0 : Heap} (hw : ∀ d ∈ tables_1, d.before a0 Z = true) (a b d g : Addr) (w0 w1 w2 w3 : UInt64) (W0 W1 W2 W3 : Int) (hw0 : oSV W0 w0) (hw1 : oSV W1 w1) (hw2 : oSV W2 w2) (hw3 : oSV W3 w3) (x0 x1 x2 x3 nn u0 u1 u2 : Int32) (i1 k1 i2 k2 i3 k3 : Int32) (hk : (-3 ≤ k1.toInt ∧ k1.toInt ≤ 3) ∧ (-3 ≤ k2.toInt ∧ k2.toInt ≤ 3) ∧ -3 ≤ k3.toInt ∧ k3.toInt ≤ 3) :
    oCtr l Z h0 [] (⟨"com/example/lotwise/lotwise/search/SparseVectorAddPinLaw", "entry", "(Lcom/example/lotwise/lotwise/search/SparseVector;IIIIIII)Z"⟩ : MethodName) method_3_code 12 (some .boolean) ({ frames := 0, cells := 0, slots := 0, locals := 0 } : Room) #[(.ref a), (.int (2 : Int32)), (.int i1), (.int k1), (.int i2), (.int k2), (.int i3), (.int k3)] [(a, .inr ("com/example/lotwise/lotwise/search/SparseVector", [("com/example/lotwise/lotwise/search/SparseVector", "values", "[D", (.ref b)), ("com/example/lotwise/lotwise/search/SparseVector", "index", "[I", (.ref d)), ("com/example/lotwise/lotwise/search/SparseVector", "count", "I", (.int nn))])), (b, .inl (.double, [(.double w0), (.double w1), (.double w2), (.double w3)])), (d, .inl (.int, [(.int x0), (.int x1), (.int x2), (.int x3)])), (g, .inl (.int, [(.int u0), (.int u1), (.int u2)]))] (oVal fun w dd => ∃ (r : Int32) (E : Int), w = .int r ∧ (r.toInt = 1 ∧ (W2 = E) ∨ r.toInt = 0 ∧ ¬ (W2 = E)) ∧ oEX 2 i1.toInt k1.toInt i2.toInt k2.toInt i3.toInt k3.toInt E ∧ dd = [(a, .inr ("com/example/lotwise/lotwise/search/SparseVector", [("com/example/lotwise/lotwise/search/SparseVector", "values", "[D", (.ref b)), ("com/example/lotwise/lotwise/search/SparseVector", "index", "[I", (.ref d)), ("com/example/lotwise/lotwise/search/SparseVector", "count", "I", (.int nn))])), (b, .inl (.double, [(.double w0), (.double w1), (.double w2), (.double w3)])), (d, .inl (.int, [(.int x0), (.int x1), (.int x2), (.int x3)])), (g, .inl (.int, [(.int u0), (.int u1), (.int u2)]))]) := by
  refine oCtr.of (Ls := #[.val (.ref a), .val (.int (2 : Int32)), .val (.int i1), .val (.int k1), .val (.int i2), .val (.int k2), .val (.int i3), .val (.int k3), .unset, .unset, .unset, .unset]) (plainFor_of_name (by first | (simp [plainName, overriddenIn]; done) | decide +kernel)) (fun m => by first | (simp [entryFrame, mkF, argsToLocals, Value.category]; done) | rfl) ?_
  intro p e s m below meth c K
  refine oW.iconst (v := (0 : Int32)) (pc' := 1) K d4_0 (by decide) rfl ?_
  refine oW.istore (Ls' := #[.val (.ref a), .val (.int (2 : Int32)), .val (.int i1), .val (.int k1), .val (.int i2), .val (.int k2), .val (.int i3), .val (.int k3), .val (.int (0 : Int32)), .unset, .unset, .unset]) (pc' := 3) K d4_1 rfl rfl ?_
  refine oW.iconst (v := (0 : Int32)) (pc' := 4) K d4_3 (by decide) rfl ?_
  refine oW.istore (Ls' := #[.val (.ref a), .val (.int (2 : Int32)), .val (.int i1), .val (.int k1), .val (.int i2), .val (.int k2), .val (.int i3), .val (.int k3), .val (.int (0 : Int32)), .val (.int (0 : Int32)), .unset, .unset]) (pc' := 6) K d4_4 rfl rfl ?_
  refine oW.join (F := fun z : Int32 × Int32 => oST 2 i1.toInt k1.toInt (0) (0) z.1.toInt z.2.toInt ∧ -3 ≤ z.1.toInt ∧ z.1.toInt ≤ 3) (pcj := 24) (Lf := fun z => #[.val (.ref a), .val (.int (2 : Int32)), .val (.int i1), .val (.int k1), .val (.int i2), .val (.int k2), .val (.int i3), .val (.int k3), .val (.int z.1), .val (.int z.2), .unset, .unset]) (Sf := fun z => []) (dsf := fun z => [(a, .inr ("com/example/lotwise/lotwise/search/SparseVector", [("com/example/lotwise/lotwise/search/SparseVector", "values", "[D", (.ref b)), ("com/example/lotwise/lotwise/search/SparseVector", "index", "[I", (.ref d)), ("com/example/lotwise/lotwise/search/SparseVector", "count", "I", (.int nn))])), (b, .inl (.double, [(.double w0), (.double w1), (.double w2), (.double w3)])), (d, .inl (.int, [(.int x0), (.int x1), (.int x2), (.int x3)])), (g, .inl (.int, [(.int u0), (.int u1), (.int u2)]))]) ?_ ?_
  · intro J
    refine oW.iloadN (pc' := 7) K d4_6 rfl rfl ?_
    refine oW.iloadN (pc' := 8) K d4_7 rfl rfl ?_
    refine oW.icmp_ne (pc' := 24) (pc3 := 11) K d4_8 (by decide) (by decide) rfl (fun c8 => ?_) (fun c8 => ?_)
    · simp only [oLt32, oEq32, Int32.reduceToInt] at c8
      exact J ((0 : Int32), (0 : Int32)) (⟨by unfold oST; dsimp only; first | omega | (have oTs' := oTs; omega) | (simp only [Int32.reduceToInt, Int64.reduceToInt]; omega), by dsimp only; first | omega | (have oTs' := oTs; omega) | (simp only [Int32.reduceToInt, Int64.reduceToInt]; omega)⟩)
    · simp only [oLt32, oEq32, Int32.reduceToInt] at c8
      refine oW.iload (pc' := 13) K d4_11 rfl rfl ?_
      refine oW.iloadN (pc' := 14) K d4_13 rfl rfl ?_
      obtain ⟨v14, ev14⟩ : ∃ z : Int32, z = (0 : Int32) + k1 := ⟨_, rfl⟩
      refine oW.iadd (pc' := 15) K d4_14 ev14 rfl ?_
      have tv14 := oIadd ev14 (by first | omega | (have oTs' := oTs; omega) | (simp only [Int32.reduceToInt, Int64.reduceToInt]; omega))
      try simp only [Int32.reduceToInt, Int64.reduceToInt] at tv14
      refine oW.istore (Ls' := #[.val (.ref a), .val (.int (2 : Int32)), .val (.int i1), .val (.int k1), .val (.int i2), .val (.int k2), .val (.int i3), .val (.int k3), .val (.int v14), .val (.int (0 : Int32)), .unset, .unset]) (pc' := 17) K d4_15 rfl rfl ?_
      refine oW.iloadN (pc' := 18) K d4_17 rfl rfl ?_
      refine oW.if_eq (pc' := 24) (pc3 := 21) K d4_18 (by decide) (by decide) rfl (fun c18 => ?_) (fun c18 => ?_)
      · simp only [oLt32, oEq32, Int32.reduceToInt] at c18
        exact J (v14, (0 : Int32)) (⟨by unfold oST; dsimp only; first | omega | (have oTs' := oTs; omega) | (simp only [Int32.reduceToInt, Int64.reduceToInt]; omega), by dsimp only; first | omega | (have oTs' := oTs; omega) | (simp only [Int32.reduceToInt, Int64.reduceToInt]; omega)⟩)
      · simp only [oLt32, oEq32, Int32.reduceToInt] at c18
        refine oW.iconst (v := (1 : Int32)) (pc' := 22) K d4_21 (by decide) rfl ?_
        refine oW.istore (Ls' := #[.val (.ref a), .val (.int (2 : Int32)), .val (.int i1), .val (.int k1), .val (.int i2), .val (.int k2), .val (.int i3), .val (.int k3), .val (.int v14), .val (.int (1 : Int32)), .unset, .unset]) (pc' := 24) K d4_22 rfl rfl ?_
        exact J (v14, (1 : Int32)) (⟨by unfold oST; dsimp only; first | omega | (have oTs' := oTs; omega) | (simp only [Int32.reduceToInt, Int64.reduceToInt]; omega), by dsimp only; first | omega | (have oTs' := oTs; omega) | (simp only [Int32.reduceToInt, Int64.reduceToInt]; omega)⟩)
  rintro ⟨sm, tc⟩ hsm
  dsimp only at hsm ⊢
  obtain ⟨hsm, bsm⟩ := hsm
  refine oW.join (F := fun z : Int32 × Int32 => oST 2 i2.toInt k2.toInt (sm.toInt) (tc.toInt) z.1.toInt z.2.toInt ∧ -6 ≤ z.1.toInt ∧ z.1.toInt ≤ 6) (pcj := 45) (Lf := fun z => #[.val (.ref a), .val (.int (2 : Int32)), .val (.int i1), .val (.int k1), .val (.int i2), .val (.int k2), .val (.int i3), .val (.int k3), .val (.int z.1), .val (.int z.2), .unset, .unset]) (Sf := fun z => []) (dsf := fun z => [(a, .inr ("com/example/lotwise/lotwise/search/SparseVector", [("com/example/lotwise/lotwise/search/SparseVector", "values", "[D", (.ref b)), ("com/example/lotwise/lotwise/search/SparseVector", "index", "[I", (.ref d)), ("com/example/lotwise/lotwise/search/SparseVector", "count", "I", (.int nn))])), (b, .inl (.double, [(.double w0), (.double w1), (.double w2), (.double w3)])), (d, .inl (.int, [(.int x0), (.int x1), (.int x2), (.int x3)])), (g, .inl (.int, [(.int u0), (.int u1), (.int u2)]))]) ?_ ?_
  · intro J
    refine oW.iload (pc' := 26) K d4_24 rfl rfl ?_
    refine oW.iloadN (pc' := 27) K d4_26 rfl rfl ?_
    refine oW.icmp_ne (pc' := 45) (pc3 := 30) K d4_27 (by decide) (by decide) rfl (fun c27 => ?_) (fun c27 => ?_)
    · simp only [oLt32, oEq32, Int32.reduceToInt] at c27
      exact J (sm, tc) (⟨by unfold oST; dsimp only; first | omega | (have oTs' := oTs; omega) | (simp only [Int32.reduceToInt, Int64.reduceToInt]; omega), by dsimp only; first | omega | (have oTs' := oTs; omega) | (simp only [Int32.reduceToInt, Int64.reduceToInt]; omega)⟩)
    · simp only [oLt32, oEq32, Int32.reduceToInt] at c27
      refine oW.iload (pc' := 32) K d4_30 rfl rfl ?_
      refine oW.iload (pc' := 34) K d4_32 rfl rfl ?_
      obtain ⟨v34, ev34⟩ : ∃ z : Int32, z = sm + k2 := ⟨_, rfl⟩
      refine oW.iadd (pc' := 35) K d4_34 ev34 rfl ?_
      have tv34 := oIadd ev34 (by first | omega | (have oTs' := oTs; omega) | (simp only [Int32.reduceToInt, Int64.reduceToInt]; omega))
      try simp only [Int32.reduceToInt, Int64.reduceToInt] at tv34
      refine oW.istore (Ls' := #[.val (.ref a), .val (.int (2 : Int32)), .val (.int i1), .val (.int k1), .val (.int i2), .val (.int k2), .val (.int i3), .val (.int k3), .val (.int v34), .val (.int tc), .unset, .unset]) (pc' := 37) K d4_35 rfl rfl ?_
      refine oW.iload (pc' := 39) K d4_37 rfl rfl ?_
      refine oW.if_eq (pc' := 45) (pc3 := 42) K d4_39 (by decide) (by decide) rfl (fun c39 => ?_) (fun c39 => ?_)
      · simp only [oLt32, oEq32, Int32.reduceToInt] at c39
        exact J (v34, tc) (⟨by unfold oST; dsimp only; first | omega | (have oTs' := oTs; omega) | (simp only [Int32.reduceToInt, Int64.reduceToInt]; omega), by dsimp only; first | omega | (have oTs' := oTs; omega) | (simp only [Int32.reduceToInt, Int64.reduceToInt]; omega)⟩)
      · simp only [oLt32, oEq32, Int32.reduceToInt] at c39
        refine oW.iconst (v := (1 : Int32)) (pc' := 43) K d4_42 (by decide) rfl ?_
        refine oW.istore (Ls' := #[.val (.ref a), .val (.int (2 : Int32)), .val (.int i1), .val (.int k1), .val (.int i2), .val (.int k2), .val (.int i3), .val (.int k3), .val (.int v34), .val (.int (1 : Int32)), .unset, .unset]) (pc' := 45) K d4_43 rfl rfl ?_
        exact J (v34, (1 : Int32)) (⟨by unfold oST; dsimp only; first | omega | (have oTs' := oTs; omega) | (simp only [Int32.reduceToInt, Int64.reduceToInt]; omega), by dsimp only; first | omega | (have oTs' := oTs; omega) | (simp only [Int32.reduceToInt, Int64.reduceToInt]; omega)⟩)
  rintro ⟨sm_1, tc_1⟩ hsm_1
  dsimp only at hsm_1 ⊢
  obtain ⟨hsm_1, bsm_1⟩ := hsm_1
  refine oW.join (F := fun z : Int32 × Int32 => oST 2 i3.toInt k3.toInt (sm_1.toInt) (tc_1.toInt) z.1.toInt z.2.toInt ∧ -9 ≤ z.1.toInt ∧ z.1.toInt ≤ 9) (pcj := 66) (Lf := fun z => #[.val (.ref a), .val (.int (2 : Int32)), .val (.int i1), .val (.int k1), .val (.int i2), .val (.int k2), .val (.int i3), .val (.int k3), .val (.int z.1), .val (.int z.2), .unset, .unset]) (Sf := fun z => []) (dsf := fun z => [(a, .inr ("com/example/lotwise/lotwise/search/SparseVector", [("com/example/lotwise/lotwise/search/SparseVector", "values", "[D", (.ref b)), ("com/example/lotwise/lotwise/search/SparseVector", "index", "[I", (.ref d)), ("com/example/lotwise/lotwise/search/SparseVector", "count", "I", (.int nn))])), (b, .inl (.double, [(.double w0), (.double w1), (.double w2), (.double w3)])), (d, .inl (.int, [(.int x0), (.int x1), (.int x2), (.int x3)])), (g, .inl (.int, [(.int u0), (.int u1), (.int u2)]))]) ?_ ?_
  · intro J
    refine oW.iload (pc' := 47) K d4_45 rfl rfl ?_
    refine oW.iloadN (pc' := 48) K d4_47 rfl rfl ?_
    refine oW.icmp_ne (pc' := 66) (pc3 := 51) K d4_48 (by decide) (by decide) rfl (fun c48 => ?_) (fun c48 => ?_)
    · simp only [oLt32, oEq32, Int32.reduceToInt] at c48
      exact J (sm_1, tc_1) (⟨by unfold oST; dsimp only; first | omega | (have oTs' := oTs; omega) | (simp only [Int32.reduceToInt, Int64.reduceToInt]; omega), by dsimp only; first | omega | (have oTs' := oTs; omega) | (simp only [Int32.reduceToInt, Int64.reduceToInt]; omega)⟩)
    · simp only [oLt32, oEq32, Int32.reduceToInt] at c48
      refine oW.iload (pc' := 53) K d4_51 rfl rfl ?_
      refine oW.iload (pc' := 55) K d4_53 rfl rfl ?_
      obtain ⟨v55, ev55⟩ : ∃ z : Int32, z = sm_1 + k3 := ⟨_, rfl⟩
      refine oW.iadd (pc' := 56) K d4_55 ev55 rfl ?_
      have tv55 := oIadd ev55 (by first | omega | (have oTs' := oTs; omega) | (simp only [Int32.reduceToInt, Int64.reduceToInt]; omega))
      try simp only [Int32.reduceToInt, Int64.reduceToInt] at tv55
      refine oW.istore (Ls' := #[.val (.ref a), .val (.int (2 : Int32)), .val (.int i1), .val (.int k1), .val (.int i2), .val (.int k2), .val (.int i3), .val (.int k3), .val (.int v55), .val (.int tc_1), .unset, .unset]) (pc' := 58) K d4_56 rfl rfl ?_
      refine oW.iload (pc' := 60) K d4_58 rfl rfl ?_
      refine oW.if_eq (pc' := 66) (pc3 := 63) K d4_60 (by decide) (by decide) rfl (fun c60 => ?_) (fun c60 => ?_)
      · simp only [oLt32, oEq32, Int32.reduceToInt] at c60
        exact J (v55, tc_1) (⟨by unfold oST; dsimp only; first | omega | (have oTs' := oTs; omega) | (simp only [Int32.reduceToInt, Int64.reduceToInt]; omega), by dsimp only; first | omega | (have oTs' := oTs; omega) | (simp only [Int32.reduceToInt, Int64.reduceToInt]; omega)⟩)
      · simp only [oLt32, oEq32, Int32.reduceToInt] at c60
        refine oW.iconst (v := (1 : Int32)) (pc' := 64) K d4_63 (by decide) rfl ?_
        refine oW.istore (Ls' := #[.val (.ref a), .val (.int (2 : Int32)), .val (.int i1), .val (.int k1), .val (.int i2), .val (.int k2), .val (.int i3), .val (.int k3), .val (.int v55), .val (.int (1 : Int32)), .unset, .unset]) (pc' := 66) K d4_64 rfl rfl ?_
        exact J (v55, (1 : Int32)) (⟨by unfold oST; dsimp only; first | omega | (have oTs' := oTs; omega) | (simp only [Int32.reduceToInt, Int64.reduceToInt]; omega), by dsimp only; first | omega | (have oTs' := oTs; omega) | (simp only [Int32.reduceToInt, Int64.reduceToInt]; omega)⟩)
  rintro ⟨sm_2, tc_2⟩ hsm_2
  dsimp only at hsm_2 ⊢
  obtain ⟨hsm_2, bsm_2⟩ := hsm_2
  refine oW.join (F := fun z : UInt64 => ∃ E : Int, oSV E z ∧ ((tc_2.toInt = 0 ∧ E = 0) ∨ (tc_2.toInt ≠ 0 ∧ sm_2.toInt = 0 ∧ E = 1000) ∨ (tc_2.toInt ≠ 0 ∧ sm_2.toInt ≠ 0 ∧ E = sm_2.toInt))) (pcj := 95) (Lf := fun z => #[.val (.ref a), .val (.int (2 : Int32)), .val (.int i1), .val (.int k1), .val (.int i2), .val (.int k2), .val (.int i3), .val (.int k3), .val (.int sm_2), .val (.int tc_2), .val (.double z), .second]) (Sf := fun z => []) (dsf := fun z => [(a, .inr ("com/example/lotwise/lotwise/search/SparseVector", [("com/example/lotwise/lotwise/search/SparseVector", "values", "[D", (.ref b)), ("com/example/lotwise/lotwise/search/SparseVector", "index", "[I", (.ref d)), ("com/example/lotwise/lotwise/search/SparseVector", "count", "I", (.int nn))])), (b, .inl (.double, [(.double w0), (.double w1), (.double w2), (.double w3)])), (d, .inl (.int, [(.int x0), (.int x1), (.int x2), (.int x3)])), (g, .inl (.int, [(.int u0), (.int u1), (.int u2)]))]) ?_ ?_
  · intro J
    refine oW.iload (pc' := 68) K d4_66 rfl rfl ?_
    refine oW.if_ne (pc' := 77) (pc3 := 71) K d4_68 (by decide) (by decide) rfl (fun c68 => ?_) (fun c68 => ?_)
    · simp only [oLt32, oEq32, Int32.reduceToInt] at c68
      refine oW.iload (pc' := 79) K d4_77 rfl rfl ?_
      refine oW.if_ne (pc' := 90) (pc3 := 82) K d4_79 (by decide) (by decide) rfl (fun c79 => ?_) (fun c79 => ?_)
      · simp only [oLt32, oEq32, Int32.reduceToInt] at c79
        refine oW.iload (pc' := 92) K d4_90 rfl rfl ?_
        obtain ⟨v92, ev92⟩ : ∃ z : UInt64, z = FP.i2d sm_2 := ⟨_, rfl⟩
        have dv92 : FP.Core.DInt (sm_2).toInt v92 := oI2D ev92
        have sv92 : oSV (sm_2.toInt) v92 := oSV.of dv92 (by first | omega | (have oTs' := oTs; omega) | (simp only [Int32.reduceToInt, Int64.reduceToInt]; omega))
        refine oW.i2d (pc' := 93) K d4_92 ev92 rfl ?_
        refine oW.dstore (Ls' := #[.val (.ref a), .val (.int (2 : Int32)), .val (.int i1), .val (.int k1), .val (.int i2), .val (.int k2), .val (.int i3), .val (.int k3), .val (.int sm_2), .val (.int tc_2), .val (.double v92), .second]) (pc' := 95) K d4_93 rfl rfl ?_
        exact J v92 (⟨_, sv92, by first | omega | (have oTs' := oTs; omega) | (simp only [Int32.reduceToInt, Int64.reduceToInt]; omega)⟩)
      · simp only [oLt32, oEq32, Int32.reduceToInt] at c79
        refine oW.ldc2D (pc' := 85) K (hw _ (List.mem_of_getElem? (i := 30) rfl)) d4_82 rfl ?_
        refine oW.dstore (Ls' := #[.val (.ref a), .val (.int (2 : Int32)), .val (.int i1), .val (.int k1), .val (.int i2), .val (.int k2), .val (.int i3), .val (.int k3), .val (.int sm_2), .val (.int tc_2), .val (.double (118622047889322841 : UInt64)), .second]) (pc' := 87) K d4_85 rfl rfl ?_
        refine oW.goto (pc' := 95) K d4_87 (by decide) (by decide) ?_
        exact J (118622047889322841 : UInt64) (⟨_, oSV.tiny, by first | omega | (have oTs' := oTs; omega) | (simp only [Int32.reduceToInt, Int64.reduceToInt]; omega)⟩)
    · simp only [oLt32, oEq32, Int32.reduceToInt] at c68
      refine oW.dconst0 (pc' := 72) K d4_71 rfl ?_
      refine oW.dstore (Ls' := #[.val (.ref a), .val (.int (2 : Int32)), .val (.int i1), .val (.int k1), .val (.int i2), .val (.int k2), .val (.int i3), .val (.int k3), .val (.int sm_2), .val (.int tc_2), .val (.double (0 : UInt64)), .second]) (pc' := 74) K d4_72 rfl rfl ?_
      refine oW.goto (pc' := 95) K d4_74 (by decide) (by decide) ?_
      exact J (0 : UInt64) (⟨_, (oSV.of (oDK 0 (by decide +kernel) (by decide)) (by first | omega | (have oTs' := oTs; omega) | (simp only [Int32.reduceToInt, Int64.reduceToInt]; omega))), by first | omega | (have oTs' := oTs; omega) | (simp only [Int32.reduceToInt, Int64.reduceToInt]; omega)⟩)
  intro wt hwt
  obtain ⟨E, sE, hE⟩ := hwt
  refine oW.aloadN (pc' := 96) K d4_95 rfl rfl rfl ?_
  refine oW.getf (i := 0) (q := 0) (pc' := 99) K (hw _ (List.mem_of_getElem? (i := 22) rfl)) d4_96 rfl rfl rfl ?_
  refine oW.iloadN (pc' := 100) K d4_99 rfl rfl ?_
  refine oW.daload (i := 1) (k := 2) (pc' := 101) K d4_100 rfl rfl (by decide) rfl rfl ?_
  refine oW.dload (pc' := 103) K d4_101 rfl rfl ?_
  obtain ⟨v103, ev103⟩ : ∃ z : Int32, z = cmpValue (FP.dcmp w2 wt) .l := ⟨_, rfl⟩
  refine oW.dcmp (pc' := 104) K d4_103 ev103 rfl ?_
  refine oW.if_ne (pc' := 111) (pc3 := 107) K d4_104 (by decide) (by decide) rfl (fun c104 => ?_) (fun c104 => ?_)
  · rw [oSV_eq hw2 sE ev103] at c104
    refine oW.iconst (v := (0 : Int32)) (pc' := 112) K d4_111 (by decide) rfl ?_
    exact oW.retB K rfl d4_112 (by decide) (by decide) ⟨_, rfl, 0, E, rfl, by first | omega | (have oTs' := oTs; omega) | (simp only [Int32.reduceToInt, Int64.reduceToInt]; omega), ⟨_, _, _, _, _, _, hsm, hsm_1, hsm_2, hE⟩, rfl⟩
  · rw [oSV_eq hw2 sE ev103] at c104
    refine oW.iconst (v := (1 : Int32)) (pc' := 108) K d4_107 (by decide) rfl ?_
    refine oW.goto (pc' := 112) K d4_108 (by decide) (by decide) ?_
    exact oW.retB K rfl d4_112 (by decide) (by decide) ⟨_, rfl, 1, E, rfl, by first | omega | (have oTs' := oTs; omega) | (simp only [Int32.reduceToInt, Int64.reduceToInt]; omega), ⟨_, _, _, _, _, _, hsm, hsm_1, hsm_2, hE⟩, rfl⟩
set_option maxRecDepth 65536 in
set_option maxHeartbeats 40000000 in
theorem own_ent3 {l : Launch} {Z : State} {a0 : Array Value} {h0 : Heap} (hw : ∀ d ∈ tables_1, d.before a0 Z = true) (a b d g : Addr) (w0 w1 w2 w3 : UInt64) (W0 W1 W2 W3 : Int) (hw0 : oSV W0 w0) (hw1 : oSV W1 w1) (hw2 : oSV W2 w2) (hw3 : oSV W3 w3) (x0 x1 x2 x3 nn u0 u1 u2 : Int32) (i1 k1 i2 k2 i3 k3 : Int32) (hk : (-3 ≤ k1.toInt ∧ k1.toInt ≤ 3) ∧ (-3 ≤ k2.toInt ∧ k2.toInt ≤ 3) ∧ -3 ≤ k3.toInt ∧ k3.toInt ≤ 3) :
    oCtr l Z h0 [] (⟨"com/example/lotwise/lotwise/search/SparseVectorAddPinLaw", "entry", "(Lcom/example/lotwise/lotwise/search/SparseVector;IIIIIII)Z"⟩ : MethodName) method_3_code 12 (some .boolean) ({ frames := 0, cells := 0, slots := 0, locals := 0 } : Room) #[(.ref a), (.int (3 : Int32)), (.int i1), (.int k1), (.int i2), (.int k2), (.int i3), (.int k3)] [(a, .inr ("com/example/lotwise/lotwise/search/SparseVector", [("com/example/lotwise/lotwise/search/SparseVector", "values", "[D", (.ref b)), ("com/example/lotwise/lotwise/search/SparseVector", "index", "[I", (.ref d)), ("com/example/lotwise/lotwise/search/SparseVector", "count", "I", (.int nn))])), (b, .inl (.double, [(.double w0), (.double w1), (.double w2), (.double w3)])), (d, .inl (.int, [(.int x0), (.int x1), (.int x2), (.int x3)])), (g, .inl (.int, [(.int u0), (.int u1), (.int u2)]))] (oVal fun w dd => ∃ (r : Int32) (E : Int), w = .int r ∧ (r.toInt = 1 ∧ (W3 = E) ∨ r.toInt = 0 ∧ ¬ (W3 = E)) ∧ oEX 3 i1.toInt k1.toInt i2.toInt k2.toInt i3.toInt k3.toInt E ∧ dd = [(a, .inr ("com/example/lotwise/lotwise/search/SparseVector", [("com/example/lotwise/lotwise/search/SparseVector", "values", "[D", (.ref b)), ("com/example/lotwise/lotwise/search/SparseVector", "index", "[I", (.ref d)), ("com/example/lotwise/lotwise/search/SparseVector", "count", "I", (.int nn))])), (b, .inl (.double, [(.double w0), (.double w1), (.double w2), (.double w3)])), (d, .inl (.int, [(.int x0), (.int x1), (.int x2), (.int x3)])), (g, .inl (.int, [(.int u0), (.int u1), (.int u2)]))]) := by
  refine oCtr.of (Ls := #[.val (.ref a), .val (.int (3 : Int32)), .val (.int i1), .val (.int k1), .val (.int i2), .val (.int k2), .val (.int i3), .val (.int k3), .unset, .unset, .unset, .unset]) (plainFor_of_name (by first | (simp [plainName, overriddenIn]; done) | decide +kernel)) (fun m => by first | (simp [entryFrame, mkF, argsToLocals, Value.category]; done) | rfl) ?_
  intro p e s m below meth c K
  refine oW.iconst (v := (0 : Int32)) (pc' := 1) K d4_0 (by decide) rfl ?_
  refine oW.istore (Ls' := #[.val (.ref a), .val (.int (3 : Int32)), .val (.int i1), .val (.int k1), .val (.int i2), .val (.int k2), .val (.int i3), .val (.int k3), .val (.int (0 : Int32)), .unset, .unset, .unset]) (pc' := 3) K d4_1 rfl rfl ?_
  refine oW.iconst (v := (0 : Int32)) (pc' := 4) K d4_3 (by decide) rfl ?_
  refine oW.istore (Ls' := #[.val (.ref a), .val (.int (3 : Int32)), .val (.int i1), .val (.int k1), .val (.int i2), .val (.int k2), .val (.int i3), .val (.int k3), .val (.int (0 : Int32)), .val (.int (0 : Int32)), .unset, .unset]) (pc' := 6) K d4_4 rfl rfl ?_
  refine oW.join (F := fun z : Int32 × Int32 => oST 3 i1.toInt k1.toInt (0) (0) z.1.toInt z.2.toInt ∧ -3 ≤ z.1.toInt ∧ z.1.toInt ≤ 3) (pcj := 24) (Lf := fun z => #[.val (.ref a), .val (.int (3 : Int32)), .val (.int i1), .val (.int k1), .val (.int i2), .val (.int k2), .val (.int i3), .val (.int k3), .val (.int z.1), .val (.int z.2), .unset, .unset]) (Sf := fun z => []) (dsf := fun z => [(a, .inr ("com/example/lotwise/lotwise/search/SparseVector", [("com/example/lotwise/lotwise/search/SparseVector", "values", "[D", (.ref b)), ("com/example/lotwise/lotwise/search/SparseVector", "index", "[I", (.ref d)), ("com/example/lotwise/lotwise/search/SparseVector", "count", "I", (.int nn))])), (b, .inl (.double, [(.double w0), (.double w1), (.double w2), (.double w3)])), (d, .inl (.int, [(.int x0), (.int x1), (.int x2), (.int x3)])), (g, .inl (.int, [(.int u0), (.int u1), (.int u2)]))]) ?_ ?_
  · intro J
    refine oW.iloadN (pc' := 7) K d4_6 rfl rfl ?_
    refine oW.iloadN (pc' := 8) K d4_7 rfl rfl ?_
    refine oW.icmp_ne (pc' := 24) (pc3 := 11) K d4_8 (by decide) (by decide) rfl (fun c8 => ?_) (fun c8 => ?_)
    · simp only [oLt32, oEq32, Int32.reduceToInt] at c8
      exact J ((0 : Int32), (0 : Int32)) (⟨by unfold oST; dsimp only; first | omega | (have oTs' := oTs; omega) | (simp only [Int32.reduceToInt, Int64.reduceToInt]; omega), by dsimp only; first | omega | (have oTs' := oTs; omega) | (simp only [Int32.reduceToInt, Int64.reduceToInt]; omega)⟩)
    · simp only [oLt32, oEq32, Int32.reduceToInt] at c8
      refine oW.iload (pc' := 13) K d4_11 rfl rfl ?_
      refine oW.iloadN (pc' := 14) K d4_13 rfl rfl ?_
      obtain ⟨v14, ev14⟩ : ∃ z : Int32, z = (0 : Int32) + k1 := ⟨_, rfl⟩
      refine oW.iadd (pc' := 15) K d4_14 ev14 rfl ?_
      have tv14 := oIadd ev14 (by first | omega | (have oTs' := oTs; omega) | (simp only [Int32.reduceToInt, Int64.reduceToInt]; omega))
      try simp only [Int32.reduceToInt, Int64.reduceToInt] at tv14
      refine oW.istore (Ls' := #[.val (.ref a), .val (.int (3 : Int32)), .val (.int i1), .val (.int k1), .val (.int i2), .val (.int k2), .val (.int i3), .val (.int k3), .val (.int v14), .val (.int (0 : Int32)), .unset, .unset]) (pc' := 17) K d4_15 rfl rfl ?_
      refine oW.iloadN (pc' := 18) K d4_17 rfl rfl ?_
      refine oW.if_eq (pc' := 24) (pc3 := 21) K d4_18 (by decide) (by decide) rfl (fun c18 => ?_) (fun c18 => ?_)
      · simp only [oLt32, oEq32, Int32.reduceToInt] at c18
        exact J (v14, (0 : Int32)) (⟨by unfold oST; dsimp only; first | omega | (have oTs' := oTs; omega) | (simp only [Int32.reduceToInt, Int64.reduceToInt]; omega), by dsimp only; first | omega | (have oTs' := oTs; omega) | (simp only [Int32.reduceToInt, Int64.reduceToInt]; omega)⟩)
      · simp only [oLt32, oEq32, Int32.reduceToInt] at c18
        refine oW.iconst (v := (1 : Int32)) (pc' := 22) K d4_21 (by decide) rfl ?_
        refine oW.istore (Ls' := #[.val (.ref a), .val (.int (3 : Int32)), .val (.int i1), .val (.int k1), .val (.int i2), .val (.int k2), .val (.int i3), .val (.int k3), .val (.int v14), .val (.int (1 : Int32)), .unset, .unset]) (pc' := 24) K d4_22 rfl rfl ?_
        exact J (v14, (1 : Int32)) (⟨by unfold oST; dsimp only; first | omega | (have oTs' := oTs; omega) | (simp only [Int32.reduceToInt, Int64.reduceToInt]; omega), by dsimp only; first | omega | (have oTs' := oTs; omega) | (simp only [Int32.reduceToInt, Int64.reduceToInt]; omega)⟩)
  rintro ⟨sm, tc⟩ hsm
  dsimp only at hsm ⊢
  obtain ⟨hsm, bsm⟩ := hsm
  refine oW.join (F := fun z : Int32 × Int32 => oST 3 i2.toInt k2.toInt (sm.toInt) (tc.toInt) z.1.toInt z.2.toInt ∧ -6 ≤ z.1.toInt ∧ z.1.toInt ≤ 6) (pcj := 45) (Lf := fun z => #[.val (.ref a), .val (.int (3 : Int32)), .val (.int i1), .val (.int k1), .val (.int i2), .val (.int k2), .val (.int i3), .val (.int k3), .val (.int z.1), .val (.int z.2), .unset, .unset]) (Sf := fun z => []) (dsf := fun z => [(a, .inr ("com/example/lotwise/lotwise/search/SparseVector", [("com/example/lotwise/lotwise/search/SparseVector", "values", "[D", (.ref b)), ("com/example/lotwise/lotwise/search/SparseVector", "index", "[I", (.ref d)), ("com/example/lotwise/lotwise/search/SparseVector", "count", "I", (.int nn))])), (b, .inl (.double, [(.double w0), (.double w1), (.double w2), (.double w3)])), (d, .inl (.int, [(.int x0), (.int x1), (.int x2), (.int x3)])), (g, .inl (.int, [(.int u0), (.int u1), (.int u2)]))]) ?_ ?_
  · intro J
    refine oW.iload (pc' := 26) K d4_24 rfl rfl ?_
    refine oW.iloadN (pc' := 27) K d4_26 rfl rfl ?_
    refine oW.icmp_ne (pc' := 45) (pc3 := 30) K d4_27 (by decide) (by decide) rfl (fun c27 => ?_) (fun c27 => ?_)
    · simp only [oLt32, oEq32, Int32.reduceToInt] at c27
      exact J (sm, tc) (⟨by unfold oST; dsimp only; first | omega | (have oTs' := oTs; omega) | (simp only [Int32.reduceToInt, Int64.reduceToInt]; omega), by dsimp only; first | omega | (have oTs' := oTs; omega) | (simp only [Int32.reduceToInt, Int64.reduceToInt]; omega)⟩)
    · simp only [oLt32, oEq32, Int32.reduceToInt] at c27
      refine oW.iload (pc' := 32) K d4_30 rfl rfl ?_
      refine oW.iload (pc' := 34) K d4_32 rfl rfl ?_
      obtain ⟨v34, ev34⟩ : ∃ z : Int32, z = sm + k2 := ⟨_, rfl⟩
      refine oW.iadd (pc' := 35) K d4_34 ev34 rfl ?_
      have tv34 := oIadd ev34 (by first | omega | (have oTs' := oTs; omega) | (simp only [Int32.reduceToInt, Int64.reduceToInt]; omega))
      try simp only [Int32.reduceToInt, Int64.reduceToInt] at tv34
      refine oW.istore (Ls' := #[.val (.ref a), .val (.int (3 : Int32)), .val (.int i1), .val (.int k1), .val (.int i2), .val (.int k2), .val (.int i3), .val (.int k3), .val (.int v34), .val (.int tc), .unset, .unset]) (pc' := 37) K d4_35 rfl rfl ?_
      refine oW.iload (pc' := 39) K d4_37 rfl rfl ?_
      refine oW.if_eq (pc' := 45) (pc3 := 42) K d4_39 (by decide) (by decide) rfl (fun c39 => ?_) (fun c39 => ?_)
      · simp only [oLt32, oEq32, Int32.reduceToInt] at c39
        exact J (v34, tc) (⟨by unfold oST; dsimp only; first | omega | (have oTs' := oTs; omega) | (simp only [Int32.reduceToInt, Int64.reduceToInt]; omega), by dsimp only; first | omega | (have oTs' := oTs; omega) | (simp only [Int32.reduceToInt, Int64.reduceToInt]; omega)⟩)
      · simp only [oLt32, oEq32, Int32.reduceToInt] at c39
        refine oW.iconst (v := (1 : Int32)) (pc' := 43) K d4_42 (by decide) rfl ?_
        refine oW.istore (Ls' := #[.val (.ref a), .val (.int (3 : Int32)), .val (.int i1), .val (.int k1), .val (.int i2), .val (.int k2), .val (.int i3), .val (.int k3), .val (.int v34), .val (.int (1 : Int32)), .unset, .unset]) (pc' := 45) K d4_43 rfl rfl ?_
        exact J (v34, (1 : Int32)) (⟨by unfold oST; dsimp only; first | omega | (have oTs' := oTs; omega) | (simp only [Int32.reduceToInt, Int64.reduceToInt]; omega), by dsimp only; first | omega | (have oTs' := oTs; omega) | (simp only [Int32.reduceToInt, Int64.reduceToInt]; omega)⟩)
  rintro ⟨sm_1, tc_1⟩ hsm_1
  dsimp only at hsm_1 ⊢
  obtain ⟨hsm_1, bsm_1⟩ := hsm_1
  refine oW.join (F := fun z : Int32 × Int32 => oST 3 i3.toInt k3.toInt (sm_1.toInt) (tc_1.toInt) z.1.toInt z.2.toInt ∧ -9 ≤ z.1.toInt ∧ z.1.toInt ≤ 9) (pcj := 66) (Lf := fun z => #[.val (.ref a), .val (.int (3 : Int32)), .val (.int i1), .val (.int k1), .val (.int i2), .val (.int k2), .val (.int i3), .val (.int k3), .val (.int z.1), .val (.int z.2), .unset, .unset]) (Sf := fun z => []) (dsf := fun z => [(a, .inr ("com/example/lotwise/lotwise/search/SparseVector", [("com/example/lotwise/lotwise/search/SparseVector", "values", "[D", (.ref b)), ("com/example/lotwise/lotwise/search/SparseVector", "index", "[I", (.ref d)), ("com/example/lotwise/lotwise/search/SparseVector", "count", "I", (.int nn))])), (b, .inl (.double, [(.double w0), (.double w1), (.double w2), (.double w3)])), (d, .inl (.int, [(.int x0), (.int x1), (.int x2), (.int x3)])), (g, .inl (.int, [(.int u0), (.int u1), (.int u2)]))]) ?_ ?_
  · intro J
    refine oW.iload (pc' := 47) K d4_45 rfl rfl ?_
    refine oW.iloadN (pc' := 48) K d4_47 rfl rfl ?_
    refine oW.icmp_ne (pc' := 66) (pc3 := 51) K d4_48 (by decide) (by decide) rfl (fun c48 => ?_) (fun c48 => ?_)
    · simp only [oLt32, oEq32, Int32.reduceToInt] at c48
      exact J (sm_1, tc_1) (⟨by unfold oST; dsimp only; first | omega | (have oTs' := oTs; omega) | (simp only [Int32.reduceToInt, Int64.reduceToInt]; omega), by dsimp only; first | omega | (have oTs' := oTs; omega) | (simp only [Int32.reduceToInt, Int64.reduceToInt]; omega)⟩)
    · simp only [oLt32, oEq32, Int32.reduceToInt] at c48
      refine oW.iload (pc' := 53) K d4_51 rfl rfl ?_
      refine oW.iload (pc' := 55) K d4_53 rfl rfl ?_
      obtain ⟨v55, ev55⟩ : ∃ z : Int32, z = sm_1 + k3 := ⟨_, rfl⟩
      refine oW.iadd (pc' := 56) K d4_55 ev55 rfl ?_
      have tv55 := oIadd ev55 (by first | omega | (have oTs' := oTs; omega) | (simp only [Int32.reduceToInt, Int64.reduceToInt]; omega))
      try simp only [Int32.reduceToInt, Int64.reduceToInt] at tv55
      refine oW.istore (Ls' := #[.val (.ref a), .val (.int (3 : Int32)), .val (.int i1), .val (.int k1), .val (.int i2), .val (.int k2), .val (.int i3), .val (.int k3), .val (.int v55), .val (.int tc_1), .unset, .unset]) (pc' := 58) K d4_56 rfl rfl ?_
      refine oW.iload (pc' := 60) K d4_58 rfl rfl ?_
      refine oW.if_eq (pc' := 66) (pc3 := 63) K d4_60 (by decide) (by decide) rfl (fun c60 => ?_) (fun c60 => ?_)
      · simp only [oLt32, oEq32, Int32.reduceToInt] at c60
        exact J (v55, tc_1) (⟨by unfold oST; dsimp only; first | omega | (have oTs' := oTs; omega) | (simp only [Int32.reduceToInt, Int64.reduceToInt]; omega), by dsimp only; first | omega | (have oTs' := oTs; omega) | (simp only [Int32.reduceToInt, Int64.reduceToInt]; omega)⟩)
      · simp only [oLt32, oEq32, Int32.reduceToInt] at c60
        refine oW.iconst (v := (1 : Int32)) (pc' := 64) K d4_63 (by decide) rfl ?_
        refine oW.istore (Ls' := #[.val (.ref a), .val (.int (3 : Int32)), .val (.int i1), .val (.int k1), .val (.int i2), .val (.int k2), .val (.int i3), .val (.int k3), .val (.int v55), .val (.int (1 : Int32)), .unset, .unset]) (pc' := 66) K d4_64 rfl rfl ?_
        exact J (v55, (1 : Int32)) (⟨by unfold oST; dsimp only; first | omega | (have oTs' := oTs; omega) | (simp only [Int32.reduceToInt, Int64.reduceToInt]; omega), by dsimp only; first | omega | (have oTs' := oTs; omega) | (simp only [Int32.reduceToInt, Int64.reduceToInt]; omega)⟩)
  rintro ⟨sm_2, tc_2⟩ hsm_2
  dsimp only at hsm_2 ⊢
  obtain ⟨hsm_2, bsm_2⟩ := hsm_2
  refine oW.join (F := fun z : UInt64 => ∃ E : Int, oSV E z ∧ ((tc_2.toInt = 0 ∧ E = 0) ∨ (tc_2.toInt ≠ 0 ∧ sm_2.toInt = 0 ∧ E = 1000) ∨ (tc_2.toInt ≠ 0 ∧ sm_2.toInt ≠ 0 ∧ E = sm_2.toInt))) (pcj := 95) (Lf := fun z => #[.val (.ref a), .val (.int (3 : Int32)), .val (.int i1), .val (.int k1), .val (.int i2), .val (.int k2), .val (.int i3), .val (.int k3), .val (.int sm_2), .val (.int tc_2), .val (.double z), .second]) (Sf := fun z => []) (dsf := fun z => [(a, .inr ("com/example/lotwise/lotwise/search/SparseVector", [("com/example/lotwise/lotwise/search/SparseVector", "values", "[D", (.ref b)), ("com/example/lotwise/lotwise/search/SparseVector", "index", "[I", (.ref d)), ("com/example/lotwise/lotwise/search/SparseVector", "count", "I", (.int nn))])), (b, .inl (.double, [(.double w0), (.double w1), (.double w2), (.double w3)])), (d, .inl (.int, [(.int x0), (.int x1), (.int x2), (.int x3)])), (g, .inl (.int, [(.int u0), (.int u1), (.int u2)]))]) ?_ ?_
  · intro J
    refine oW.iload (pc' := 68) K d4_66 rfl rfl ?_
    refine oW.if_ne (pc' := 77) (pc3 := 71) K d4_68 (by decide) (by decide) rfl (fun c68 => ?_) (fun c68 => ?_)
    · simp only [oLt32, oEq32, Int32.reduceToInt] at c68
      refine oW.iload (pc' := 79) K d4_77 rfl rfl ?_
      refine oW.if_ne (pc' := 90) (pc3 := 82) K d4_79 (by decide) (by decide) rfl (fun c79 => ?_) (fun c79 => ?_)
      · simp only [oLt32, oEq32, Int32.reduceToInt] at c79
        refine oW.iload (pc' := 92) K d4_90 rfl rfl ?_
        obtain ⟨v92, ev92⟩ : ∃ z : UInt64, z = FP.i2d sm_2 := ⟨_, rfl⟩
        have dv92 : FP.Core.DInt (sm_2).toInt v92 := oI2D ev92
        have sv92 : oSV (sm_2.toInt) v92 := oSV.of dv92 (by first | omega | (have oTs' := oTs; omega) | (simp only [Int32.reduceToInt, Int64.reduceToInt]; omega))
        refine oW.i2d (pc' := 93) K d4_92 ev92 rfl ?_
        refine oW.dstore (Ls' := #[.val (.ref a), .val (.int (3 : Int32)), .val (.int i1), .val (.int k1), .val (.int i2), .val (.int k2), .val (.int i3), .val (.int k3), .val (.int sm_2), .val (.int tc_2), .val (.double v92), .second]) (pc' := 95) K d4_93 rfl rfl ?_
        exact J v92 (⟨_, sv92, by first | omega | (have oTs' := oTs; omega) | (simp only [Int32.reduceToInt, Int64.reduceToInt]; omega)⟩)
      · simp only [oLt32, oEq32, Int32.reduceToInt] at c79
        refine oW.ldc2D (pc' := 85) K (hw _ (List.mem_of_getElem? (i := 30) rfl)) d4_82 rfl ?_
        refine oW.dstore (Ls' := #[.val (.ref a), .val (.int (3 : Int32)), .val (.int i1), .val (.int k1), .val (.int i2), .val (.int k2), .val (.int i3), .val (.int k3), .val (.int sm_2), .val (.int tc_2), .val (.double (118622047889322841 : UInt64)), .second]) (pc' := 87) K d4_85 rfl rfl ?_
        refine oW.goto (pc' := 95) K d4_87 (by decide) (by decide) ?_
        exact J (118622047889322841 : UInt64) (⟨_, oSV.tiny, by first | omega | (have oTs' := oTs; omega) | (simp only [Int32.reduceToInt, Int64.reduceToInt]; omega)⟩)
    · simp only [oLt32, oEq32, Int32.reduceToInt] at c68
      refine oW.dconst0 (pc' := 72) K d4_71 rfl ?_
      refine oW.dstore (Ls' := #[.val (.ref a), .val (.int (3 : Int32)), .val (.int i1), .val (.int k1), .val (.int i2), .val (.int k2), .val (.int i3), .val (.int k3), .val (.int sm_2), .val (.int tc_2), .val (.double (0 : UInt64)), .second]) (pc' := 74) K d4_72 rfl rfl ?_
      refine oW.goto (pc' := 95) K d4_74 (by decide) (by decide) ?_
      exact J (0 : UInt64) (⟨_, (oSV.of (oDK 0 (by decide +kernel) (by decide)) (by first | omega | (have oTs' := oTs; omega) | (simp only [Int32.reduceToInt, Int64.reduceToInt]; omega))), by first | omega | (have oTs' := oTs; omega) | (simp only [Int32.reduceToInt, Int64.reduceToInt]; omega)⟩)
  intro wt hwt
  obtain ⟨E, sE, hE⟩ := hwt
  refine oW.aloadN (pc' := 96) K d4_95 rfl rfl rfl ?_
  refine oW.getf (i := 0) (q := 0) (pc' := 99) K (hw _ (List.mem_of_getElem? (i := 22) rfl)) d4_96 rfl rfl rfl ?_
  refine oW.iloadN (pc' := 100) K d4_99 rfl rfl ?_
  refine oW.daload (i := 1) (k := 3) (pc' := 101) K d4_100 rfl rfl (by decide) rfl rfl ?_
  refine oW.dload (pc' := 103) K d4_101 rfl rfl ?_
  obtain ⟨v103, ev103⟩ : ∃ z : Int32, z = cmpValue (FP.dcmp w3 wt) .l := ⟨_, rfl⟩
  refine oW.dcmp (pc' := 104) K d4_103 ev103 rfl ?_
  refine oW.if_ne (pc' := 111) (pc3 := 107) K d4_104 (by decide) (by decide) rfl (fun c104 => ?_) (fun c104 => ?_)
  · rw [oSV_eq hw3 sE ev103] at c104
    refine oW.iconst (v := (0 : Int32)) (pc' := 112) K d4_111 (by decide) rfl ?_
    exact oW.retB K rfl d4_112 (by decide) (by decide) ⟨_, rfl, 0, E, rfl, by first | omega | (have oTs' := oTs; omega) | (simp only [Int32.reduceToInt, Int64.reduceToInt]; omega), ⟨_, _, _, _, _, _, hsm, hsm_1, hsm_2, hE⟩, rfl⟩
  · rw [oSV_eq hw3 sE ev103] at c104
    refine oW.iconst (v := (1 : Int32)) (pc' := 108) K d4_107 (by decide) rfl ?_
    refine oW.goto (pc' := 112) K d4_108 (by decide) (by decide) ?_
    exact oW.retB K rfl d4_112 (by decide) (by decide) ⟨_, rfl, 1, E, rfl, by first | omega | (have oTs' := oTs; omega) | (simp only [Int32.reduceToInt, Int64.reduceToInt]; omega), ⟨_, _, _, _, _, _, hsm, hsm_1, hsm_2, hE⟩, rfl⟩
theorem pd_0 : parseMethodDescriptor "(I)V" = some ⟨[.int], none⟩ := by decide +kernel
theorem pd_1 : parseMethodDescriptor "(ID)V" = some ⟨[.int, .double], none⟩ := by decide +kernel
theorem pd_2 : parseMethodDescriptor "(Lcom/example/lotwise/lotwise/search/SparseVector;IIIIIII)Z" = some ⟨[(.object "com/example/lotwise/lotwise/search/SparseVector"), .int, .int, .int, .int, .int, .int, .int], some .boolean⟩ := by decide +kernel
set_option maxRecDepth 65536 in
set_option maxHeartbeats 40000000 in
theorem own_law {l : Launch} {Z : State} {a0 : Array Value} {h0 : Heap} (hw : ∀ d ∈ tables_1, d.before a0 Z = true) (p0 : Int32) (p1 : Int32) (p2 : Int32) (p3 : Int32) (p4 : Int32) (p5 : Int32) :
    oCtr l Z h0 tables_1 x code maxLocals ret room_1 #[(.int p0), (.int p1), (.int p2), (.int p3), (.int p4), (.int p5)] [] (oVal fun w _ => w = .int 1) := by
  refine oCtr.of (Ls := #[.val (.int p0), .val (.int p1), .val (.int p2), .val (.int p3), .val (.int p4), .val (.int p5), .unset, .unset, .unset, .unset, .unset, .unset, .unset, .unset, .unset, .unset, .unset, .unset, .unset, .unset, .unset]) (plainFor_of_name (by first | (simp [plainName, overriddenIn]; done) | decide +kernel)) (fun m => by first | (simp [entryFrame, mkF, argsToLocals, Value.category, maxLocals]; done) | rfl) ?_
  intro p e s m below meth c K
  refine oW.iloadN (pc' := 1) K at_0 rfl rfl ?_
  refine oW.iconst (v := (3 : Int32)) (pc' := 2) K at_1 (by decide) rfl ?_
  obtain ⟨v2, ev2⟩ : ∃ z : Int32, z = p0 &&& (3 : Int32) := ⟨_, rfl⟩
  refine oW.iand (pc' := 3) K at_2 ev2 rfl ?_
  have b2 := oMaskR 3 (by decide) ev2
  refine oW.istore (Ls' := #[.val (.int p0), .val (.int p1), .val (.int p2), .val (.int p3), .val (.int p4), .val (.int p5), .val (.int v2), .unset, .unset, .unset, .unset, .unset, .unset, .unset, .unset, .unset, .unset, .unset, .unset, .unset, .unset]) (pc' := 5) K at_3 rfl rfl ?_
  refine oW.iloadN (pc' := 6) K at_5 rfl rfl ?_
  refine oW.iconst (v := (3 : Int32)) (pc' := 7) K at_6 (by decide) rfl ?_
  obtain ⟨v7, ev7⟩ : ∃ z : Int32, z = p1 &&& (3 : Int32) := ⟨_, rfl⟩
  refine oW.iand (pc' := 8) K at_7 ev7 rfl ?_
  have b7 := oMaskR 3 (by decide) ev7
  refine oW.istore (Ls' := #[.val (.int p0), .val (.int p1), .val (.int p2), .val (.int p3), .val (.int p4), .val (.int p5), .val (.int v2), .val (.int v7), .unset, .unset, .unset, .unset, .unset, .unset, .unset, .unset, .unset, .unset, .unset, .unset, .unset]) (pc' := 10) K at_8 rfl rfl ?_
  refine oW.iloadN (pc' := 11) K at_10 rfl rfl ?_
  refine oW.iconst (v := (3 : Int32)) (pc' := 12) K at_11 (by decide) rfl ?_
  obtain ⟨v12, ev12⟩ : ∃ z : Int32, z = p2 &&& (3 : Int32) := ⟨_, rfl⟩
  refine oW.iand (pc' := 13) K at_12 ev12 rfl ?_
  have b12 := oMaskR 3 (by decide) ev12
  refine oW.istore (Ls' := #[.val (.int p0), .val (.int p1), .val (.int p2), .val (.int p3), .val (.int p4), .val (.int p5), .val (.int v2), .val (.int v7), .val (.int v12), .unset, .unset, .unset, .unset, .unset, .unset, .unset, .unset, .unset, .unset, .unset, .unset]) (pc' := 15) K at_13 rfl rfl ?_
  refine oW.iloadN (pc' := 16) K at_15 rfl rfl ?_
  refine oW.iconst (v := (4 : Int32)) (pc' := 17) K at_16 (by decide) rfl ?_
  obtain ⟨v17, ev17⟩ : ∃ z : Int32, z = p3 % (4 : Int32) := ⟨_, rfl⟩
  refine oW.irem (pc' := 18) K at_17 (by decide) ev17 rfl ?_
  have b17 := oRem4 ev17
  refine oW.istore (Ls' := #[.val (.int p0), .val (.int p1), .val (.int p2), .val (.int p3), .val (.int p4), .val (.int p5), .val (.int v2), .val (.int v7), .val (.int v12), .val (.int v17), .unset, .unset, .unset, .unset, .unset, .unset, .unset, .unset, .unset, .unset, .unset]) (pc' := 20) K at_18 rfl rfl ?_
  refine oW.iload (pc' := 22) K at_20 rfl rfl ?_
  refine oW.iconst (v := (4 : Int32)) (pc' := 23) K at_22 (by decide) rfl ?_
  obtain ⟨v23, ev23⟩ : ∃ z : Int32, z = p4 % (4 : Int32) := ⟨_, rfl⟩
  refine oW.irem (pc' := 24) K at_23 (by decide) ev23 rfl ?_
  have b23 := oRem4 ev23
  refine oW.istore (Ls' := #[.val (.int p0), .val (.int p1), .val (.int p2), .val (.int p3), .val (.int p4), .val (.int p5), .val (.int v2), .val (.int v7), .val (.int v12), .val (.int v17), .val (.int v23), .unset, .unset, .unset, .unset, .unset, .unset, .unset, .unset, .unset, .unset]) (pc' := 26) K at_24 rfl rfl ?_
  refine oW.iload (pc' := 28) K at_26 rfl rfl ?_
  refine oW.iconst (v := (4 : Int32)) (pc' := 29) K at_28 (by decide) rfl ?_
  obtain ⟨v29, ev29⟩ : ∃ z : Int32, z = p5 % (4 : Int32) := ⟨_, rfl⟩
  refine oW.irem (pc' := 30) K at_29 (by decide) ev29 rfl ?_
  have b29 := oRem4 ev29
  refine oW.istore (Ls' := #[.val (.int p0), .val (.int p1), .val (.int p2), .val (.int p3), .val (.int p4), .val (.int p5), .val (.int v2), .val (.int v7), .val (.int v12), .val (.int v17), .val (.int v23), .val (.int v29), .unset, .unset, .unset, .unset, .unset, .unset, .unset, .unset, .unset]) (pc' := 32) K at_30 rfl rfl ?_
  refine oW.new (fs := [("com/example/lotwise/lotwise/search/SparseVector", "values", "[D", .null), ("com/example/lotwise/lotwise/search/SparseVector", "index", "[I", .null), ("com/example/lotwise/lotwise/search/SparseVector", "count", "I", (.int (0 : Int32)))]) (cells' := 1) (slots' := 3) (dsf := fun z => [(z, .inr ("com/example/lotwise/lotwise/search/SparseVector", [("com/example/lotwise/lotwise/search/SparseVector", "values", "[D", .null), ("com/example/lotwise/lotwise/search/SparseVector", "index", "[I", .null), ("com/example/lotwise/lotwise/search/SparseVector", "count", "I", (.int (0 : Int32)))]))]) (pc' := 35) K (hw _ (List.mem_of_getElem? (i := 0) rfl)) (hw _ (List.mem_of_getElem? (i := 1) rfl)) (hw _ (List.mem_of_getElem? (i := 2) rfl)) (oLd_0 hw) at_32 (by decide) (by decide) rfl rfl (fun _ => rfl) rfl ?_
  intro a32 ha32
  refine oW.dup (pc' := 36) K at_35 rfl rfl ?_
  refine oW.iconst (v := (4 : Int32)) (pc' := 37) K at_36 (by decide) rfl ?_
  refine oW.callI (a := a32) (argsL := [(.int (4 : Int32))]) (S := [(.ref a32)]) (rm := ({ frames := 1, cells := 2, slots := 8, locals := 12 } : Room)) (W := 1) (cells' := 3) (slots' := 11) (pc' := 40) K rfl (hw _ (List.mem_of_getElem? (i := 3) rfl)) (hw _ (List.mem_of_getElem? (i := 4) rfl)) (hw _ (List.mem_of_getElem? (i := 2) rfl)) (hw _ (List.mem_of_getElem? (i := 5) rfl)) (by decide) (own_init hw a32) (lenOf pd_0 rfl) at_37 rfl rfl (Nat.le_of_eq rfl) (by decide) (by decide) (by decide) (by decide) rfl rfl rfl ?_
  rintro _ ⟨bv, bi, rfl⟩
  refine oW.astore (Ls' := #[.val (.int p0), .val (.int p1), .val (.int p2), .val (.int p3), .val (.int p4), .val (.int p5), .val (.int v2), .val (.int v7), .val (.int v12), .val (.int v17), .val (.int v23), .val (.int v29), .val (.ref a32), .unset, .unset, .unset, .unset, .unset, .unset, .unset, .unset]) (pc' := 42) K at_40 rfl rfl rfl ?_
  refine oW.aload (pc' := 44) K at_42 rfl rfl rfl ?_
  refine oW.iload (pc' := 46) K at_44 rfl rfl ?_
  refine oW.iload (pc' := 48) K at_46 rfl rfl ?_
  obtain ⟨v48, ev48⟩ : ∃ z : UInt64, z = FP.i2d v17 := ⟨_, rfl⟩
  have dv48 : FP.Core.DInt (v17).toInt v48 := oI2D ev48
  have sv48 : oSV (v17.toInt) v48 := oSV.of dv48 (by first | omega | (have oTs' := oTs; omega) | (simp only [Int32.reduceToInt, Int64.reduceToInt]; omega))
  refine oW.i2d (pc' := 49) K at_48 ev48 rfl ?_
  have z48 := oZ0 ev48
  refine oW.callV0 (a := a32) (argsL := [(.int v2), (.double v48)]) (S := []) (rm := ({ frames := 0, cells := 0, slots := 0, locals := 0 } : Room)) (W := 0) (cells' := 3) (slots' := 11) (pc' := 52) K (hw _ (List.mem_of_getElem? (i := 15) rfl)) (hw _ (List.mem_of_getElem? (i := 16) rfl)) (hw _ (List.mem_of_getElem? (i := 18) rfl)) (hw _ (List.mem_of_getElem? (i := 17) rfl)) (hw _ (List.mem_of_getElem? (i := 19) rfl)) (hw _ (List.mem_of_getElem? (i := 2) rfl)) (by decide) (oNF (hw _ (List.mem_of_getElem? (i := 18) rfl))) (fun _ M => oMem.exa (i := 0) rfl M) (own_add hw a32 bv bi v2 (by omega) v48 (v17.toInt) dv48 z48 (by omega) (0 : UInt64) (0 : UInt64) (0 : UInt64) (0 : UInt64) (0) (0) (0) (0) (oSV.of (oDK 0 (by decide +kernel) (by decide)) (by first | omega | (have oTs' := oTs; omega) | (simp only [Int32.reduceToInt, Int64.reduceToInt]; omega))) (oSV.of (oDK 0 (by decide +kernel) (by decide)) (by first | omega | (have oTs' := oTs; omega) | (simp only [Int32.reduceToInt, Int64.reduceToInt]; omega))) (oSV.of (oDK 0 (by decide +kernel) (by decide)) (by first | omega | (have oTs' := oTs; omega) | (simp only [Int32.reduceToInt, Int64.reduceToInt]; omega))) (oSV.of (oDK 0 (by decide +kernel) (by decide)) (by first | omega | (have oTs' := oTs; omega) | (simp only [Int32.reduceToInt, Int64.reduceToInt]; omega))) (by omega) (by omega) (by omega) (by omega) (0 : Int32) (0 : Int32) (0 : Int32) (0 : Int32) (0 : Int32) (by first | omega | (have oTs' := oTs; omega) | (simp only [Int32.reduceToInt, Int64.reduceToInt]; omega))) (lenOf pd_1 rfl) at_49 rfl rfl (Nat.le_of_eq rfl) (by decide) (by decide) (by decide) (by decide) rfl rfl rfl ?_
  rintro _ ⟨w1_0, w1_1, w1_2, w1_3, W1_0, W1_1, W1_2, W1_3, x1_0, x1_1, x1_2, x1_3, n1, rfl, hw1_0, hw1_1, hw1_2, hw1_3, he1_0, he1_1, he1_2, he1_3, hn1⟩
  rw [own_new1 b2] at hn1
  simp only [Int32.reduceToInt] at hn1
  have bn1 := own_bn hn1
  refine oW.aload (pc' := 54) K at_52 rfl rfl rfl ?_
  refine oW.iload (pc' := 56) K at_54 rfl rfl ?_
  refine oW.iload (pc' := 58) K at_56 rfl rfl ?_
  obtain ⟨v58, ev58⟩ : ∃ z : UInt64, z = FP.i2d v23 := ⟨_, rfl⟩
  have dv58 : FP.Core.DInt (v23).toInt v58 := oI2D ev58
  have sv58 : oSV (v23.toInt) v58 := oSV.of dv58 (by first | omega | (have oTs' := oTs; omega) | (simp only [Int32.reduceToInt, Int64.reduceToInt]; omega))
  refine oW.i2d (pc' := 59) K at_58 ev58 rfl ?_
  have z58 := oZ0 ev58
  refine oW.callV0 (a := a32) (argsL := [(.int v7), (.double v58)]) (S := []) (rm := ({ frames := 0, cells := 0, slots := 0, locals := 0 } : Room)) (W := 0) (cells' := 3) (slots' := 11) (pc' := 62) K (hw _ (List.mem_of_getElem? (i := 15) rfl)) (hw _ (List.mem_of_getElem? (i := 16) rfl)) (hw _ (List.mem_of_getElem? (i := 18) rfl)) (hw _ (List.mem_of_getElem? (i := 17) rfl)) (hw _ (List.mem_of_getElem? (i := 19) rfl)) (hw _ (List.mem_of_getElem? (i := 2) rfl)) (by decide) (oNF (hw _ (List.mem_of_getElem? (i := 18) rfl))) (fun _ M => oMem.exa (i := 0) rfl M) (own_add hw a32 bv bi v7 (by omega) v58 (v23.toInt) dv58 z58 (by omega) w1_0 w1_1 w1_2 w1_3 (W1_0) (W1_1) (W1_2) (W1_3) hw1_0 hw1_1 hw1_2 hw1_3 (own_bd2 b17 he1_0) (own_bd2 b17 he1_1) (own_bd2 b17 he1_2) (own_bd2 b17 he1_3) x1_0 x1_1 x1_2 x1_3 n1 (by first | omega | (have oTs' := oTs; omega) | (simp only [Int32.reduceToInt, Int64.reduceToInt]; omega))) (lenOf pd_1 rfl) at_59 rfl rfl (Nat.le_of_eq rfl) (by decide) (by decide) (by decide) (by decide) rfl rfl rfl ?_
  rintro _ ⟨w2_0, w2_1, w2_2, w2_3, W2_0, W2_1, W2_2, W2_3, x2_0, x2_1, x2_2, x2_3, n2, rfl, hw2_0, hw2_1, hw2_2, hw2_3, he2_0, he2_1, he2_2, he2_3, hn2⟩
  rw [own_new2 b7 b17 he1_0 he1_1 he1_2 he1_3] at hn2
  have bn2 := own_bn hn2
  refine oW.aload (pc' := 64) K at_62 rfl rfl rfl ?_
  refine oW.iload (pc' := 66) K at_64 rfl rfl ?_
  refine oW.iload (pc' := 68) K at_66 rfl rfl ?_
  obtain ⟨v68, ev68⟩ : ∃ z : UInt64, z = FP.i2d v29 := ⟨_, rfl⟩
  have dv68 : FP.Core.DInt (v29).toInt v68 := oI2D ev68
  have sv68 : oSV (v29.toInt) v68 := oSV.of dv68 (by first | omega | (have oTs' := oTs; omega) | (simp only [Int32.reduceToInt, Int64.reduceToInt]; omega))
  refine oW.i2d (pc' := 69) K at_68 ev68 rfl ?_
  have z68 := oZ0 ev68
  refine oW.callV0 (a := a32) (argsL := [(.int v12), (.double v68)]) (S := []) (rm := ({ frames := 0, cells := 0, slots := 0, locals := 0 } : Room)) (W := 0) (cells' := 3) (slots' := 11) (pc' := 72) K (hw _ (List.mem_of_getElem? (i := 15) rfl)) (hw _ (List.mem_of_getElem? (i := 16) rfl)) (hw _ (List.mem_of_getElem? (i := 18) rfl)) (hw _ (List.mem_of_getElem? (i := 17) rfl)) (hw _ (List.mem_of_getElem? (i := 19) rfl)) (hw _ (List.mem_of_getElem? (i := 2) rfl)) (by decide) (oNF (hw _ (List.mem_of_getElem? (i := 18) rfl))) (fun _ M => oMem.exa (i := 0) rfl M) (own_add hw a32 bv bi v12 (by omega) v68 (v29.toInt) dv68 z68 (by omega) w2_0 w2_1 w2_2 w2_3 (W2_0) (W2_1) (W2_2) (W2_3) hw2_0 hw2_1 hw2_2 hw2_3 (own_bd3 ⟨b17, b23⟩ he1_0 he2_0) (own_bd3 ⟨b17, b23⟩ he1_1 he2_1) (own_bd3 ⟨b17, b23⟩ he1_2 he2_2) (own_bd3 ⟨b17, b23⟩ he1_3 he2_3) x2_0 x2_1 x2_2 x2_3 n2 (by first | omega | (have oTs' := oTs; omega) | (simp only [Int32.reduceToInt, Int64.reduceToInt]; omega))) (lenOf pd_1 rfl) at_69 rfl rfl (Nat.le_of_eq rfl) (by decide) (by decide) (by decide) (by decide) rfl rfl rfl ?_
  rintro _ ⟨w3_0, w3_1, w3_2, w3_3, W3_0, W3_1, W3_2, W3_3, x3_0, x3_1, x3_2, x3_3, n3, rfl, hw3_0, hw3_1, hw3_2, hw3_3, he3_0, he3_1, he3_2, he3_3, hn3⟩
  rw [own_new3 b12 ⟨b17, b23⟩ he1_0 he1_1 he1_2 he1_3 he2_0 he2_1 he2_2 he2_3] at hn3
  have bn3 := own_bn hn3
  refine oW.join (F := fun z : Int32 => (z.toInt = 1 ∧ (v17.toInt ≠ 0) ∨ z.toInt = 0 ∧ ¬ (v17.toInt ≠ 0))) (pcj := 82) (Lf := fun z => #[.val (.int p0), .val (.int p1), .val (.int p2), .val (.int p3), .val (.int p4), .val (.int p5), .val (.int v2), .val (.int v7), .val (.int v12), .val (.int v17), .val (.int v23), .val (.int v29), .val (.ref a32), .unset, .unset, .unset, .unset, .unset, .unset, .unset, .unset]) (Sf := fun z => [(.int z)]) (dsf := fun z => [(a32, .inr ("com/example/lotwise/lotwise/search/SparseVector", [("com/example/lotwise/lotwise/search/SparseVector", "values", "[D", (.ref bv)), ("com/example/lotwise/lotwise/search/SparseVector", "index", "[I", (.ref bi)), ("com/example/lotwise/lotwise/search/SparseVector", "count", "I", (.int n3))])), (bv, .inl (.double, [(.double w3_0), (.double w3_1), (.double w3_2), (.double w3_3)])), (bi, .inl (.int, [(.int x3_0), (.int x3_1), (.int x3_2), (.int x3_3)]))]) ?_ ?_
  · intro J
    refine oW.iload (pc' := 74) K at_72 rfl rfl ?_
    refine oW.if_eq (pc' := 81) (pc3 := 77) K at_74 (by decide) (by decide) rfl (fun c74 => ?_) (fun c74 => ?_)
    · simp only [oLt32, oEq32, Int32.reduceToInt] at c74
      refine oW.iconst (v := (0 : Int32)) (pc' := 82) K at_81 (by decide) rfl ?_
      exact J (0 : Int32) (by first | omega | (have oTs' := oTs; omega) | (simp only [Int32.reduceToInt, Int64.reduceToInt]; omega))
    · simp only [oLt32, oEq32, Int32.reduceToInt] at c74
      refine oW.iconst (v := (1 : Int32)) (pc' := 78) K at_77 (by decide) rfl ?_
      refine oW.goto (pc' := 82) K at_78 (by decide) (by decide) ?_
      exact J (1 : Int32) (by first | omega | (have oTs' := oTs; omega) | (simp only [Int32.reduceToInt, Int64.reduceToInt]; omega))
  intro f1 hf1
  refine oW.istore (Ls' := #[.val (.int p0), .val (.int p1), .val (.int p2), .val (.int p3), .val (.int p4), .val (.int p5), .val (.int v2), .val (.int v7), .val (.int v12), .val (.int v17), .val (.int v23), .val (.int v29), .val (.ref a32), .val (.int f1), .unset, .unset, .unset, .unset, .unset, .unset, .unset]) (pc' := 84) K at_82 rfl rfl ?_
  refine oW.join (F := fun z : Int32 => (z.toInt = 1 ∧ (v23.toInt ≠ 0) ∨ z.toInt = 0 ∧ ¬ (v23.toInt ≠ 0))) (pcj := 94) (Lf := fun z => #[.val (.int p0), .val (.int p1), .val (.int p2), .val (.int p3), .val (.int p4), .val (.int p5), .val (.int v2), .val (.int v7), .val (.int v12), .val (.int v17), .val (.int v23), .val (.int v29), .val (.ref a32), .val (.int f1), .unset, .unset, .unset, .unset, .unset, .unset, .unset]) (Sf := fun z => [(.int z)]) (dsf := fun z => [(a32, .inr ("com/example/lotwise/lotwise/search/SparseVector", [("com/example/lotwise/lotwise/search/SparseVector", "values", "[D", (.ref bv)), ("com/example/lotwise/lotwise/search/SparseVector", "index", "[I", (.ref bi)), ("com/example/lotwise/lotwise/search/SparseVector", "count", "I", (.int n3))])), (bv, .inl (.double, [(.double w3_0), (.double w3_1), (.double w3_2), (.double w3_3)])), (bi, .inl (.int, [(.int x3_0), (.int x3_1), (.int x3_2), (.int x3_3)]))]) ?_ ?_
  · intro J
    refine oW.iload (pc' := 86) K at_84 rfl rfl ?_
    refine oW.if_eq (pc' := 93) (pc3 := 89) K at_86 (by decide) (by decide) rfl (fun c86 => ?_) (fun c86 => ?_)
    · simp only [oLt32, oEq32, Int32.reduceToInt] at c86
      refine oW.iconst (v := (0 : Int32)) (pc' := 94) K at_93 (by decide) rfl ?_
      exact J (0 : Int32) (by first | omega | (have oTs' := oTs; omega) | (simp only [Int32.reduceToInt, Int64.reduceToInt]; omega))
    · simp only [oLt32, oEq32, Int32.reduceToInt] at c86
      refine oW.iconst (v := (1 : Int32)) (pc' := 90) K at_89 (by decide) rfl ?_
      refine oW.goto (pc' := 94) K at_90 (by decide) (by decide) ?_
      exact J (1 : Int32) (by first | omega | (have oTs' := oTs; omega) | (simp only [Int32.reduceToInt, Int64.reduceToInt]; omega))
  intro f2 hf2
  refine oW.istore (Ls' := #[.val (.int p0), .val (.int p1), .val (.int p2), .val (.int p3), .val (.int p4), .val (.int p5), .val (.int v2), .val (.int v7), .val (.int v12), .val (.int v17), .val (.int v23), .val (.int v29), .val (.ref a32), .val (.int f1), .val (.int f2), .unset, .unset, .unset, .unset, .unset, .unset]) (pc' := 96) K at_94 rfl rfl ?_
  refine oW.join (F := fun z : Int32 => (z.toInt = 1 ∧ (v29.toInt ≠ 0) ∨ z.toInt = 0 ∧ ¬ (v29.toInt ≠ 0))) (pcj := 106) (Lf := fun z => #[.val (.int p0), .val (.int p1), .val (.int p2), .val (.int p3), .val (.int p4), .val (.int p5), .val (.int v2), .val (.int v7), .val (.int v12), .val (.int v17), .val (.int v23), .val (.int v29), .val (.ref a32), .val (.int f1), .val (.int f2), .unset, .unset, .unset, .unset, .unset, .unset]) (Sf := fun z => [(.int z)]) (dsf := fun z => [(a32, .inr ("com/example/lotwise/lotwise/search/SparseVector", [("com/example/lotwise/lotwise/search/SparseVector", "values", "[D", (.ref bv)), ("com/example/lotwise/lotwise/search/SparseVector", "index", "[I", (.ref bi)), ("com/example/lotwise/lotwise/search/SparseVector", "count", "I", (.int n3))])), (bv, .inl (.double, [(.double w3_0), (.double w3_1), (.double w3_2), (.double w3_3)])), (bi, .inl (.int, [(.int x3_0), (.int x3_1), (.int x3_2), (.int x3_3)]))]) ?_ ?_
  · intro J
    refine oW.iload (pc' := 98) K at_96 rfl rfl ?_
    refine oW.if_eq (pc' := 105) (pc3 := 101) K at_98 (by decide) (by decide) rfl (fun c98 => ?_) (fun c98 => ?_)
    · simp only [oLt32, oEq32, Int32.reduceToInt] at c98
      refine oW.iconst (v := (0 : Int32)) (pc' := 106) K at_105 (by decide) rfl ?_
      exact J (0 : Int32) (by first | omega | (have oTs' := oTs; omega) | (simp only [Int32.reduceToInt, Int64.reduceToInt]; omega))
    · simp only [oLt32, oEq32, Int32.reduceToInt] at c98
      refine oW.iconst (v := (1 : Int32)) (pc' := 102) K at_101 (by decide) rfl ?_
      refine oW.goto (pc' := 106) K at_102 (by decide) (by decide) ?_
      exact J (1 : Int32) (by first | omega | (have oTs' := oTs; omega) | (simp only [Int32.reduceToInt, Int64.reduceToInt]; omega))
  intro f3 hf3
  refine oW.istore (Ls' := #[.val (.int p0), .val (.int p1), .val (.int p2), .val (.int p3), .val (.int p4), .val (.int p5), .val (.int v2), .val (.int v7), .val (.int v12), .val (.int v17), .val (.int v23), .val (.int v29), .val (.ref a32), .val (.int f1), .val (.int f2), .val (.int f3), .unset, .unset, .unset, .unset, .unset]) (pc' := 108) K at_106 rfl rfl ?_
  refine oW.iload (pc' := 110) K at_108 rfl rfl ?_
  refine oW.istore (Ls' := #[.val (.int p0), .val (.int p1), .val (.int p2), .val (.int p3), .val (.int p4), .val (.int p5), .val (.int v2), .val (.int v7), .val (.int v12), .val (.int v17), .val (.int v23), .val (.int v29), .val (.ref a32), .val (.int f1), .val (.int f2), .val (.int f3), .val (.int f1), .unset, .unset, .unset, .unset]) (pc' := 112) K at_110 rfl rfl ?_
  refine oW.join (F := fun z : Int32 => (z.toInt = 1 ∧ (v23.toInt ≠ 0 ∧ ¬ (v17.toInt ≠ 0 ∧ v2.toInt = v7.toInt)) ∨ z.toInt = 0 ∧ ¬ (v23.toInt ≠ 0 ∧ ¬ (v17.toInt ≠ 0 ∧ v2.toInt = v7.toInt)))) (pcj := 134) (Lf := fun z => #[.val (.int p0), .val (.int p1), .val (.int p2), .val (.int p3), .val (.int p4), .val (.int p5), .val (.int v2), .val (.int v7), .val (.int v12), .val (.int v17), .val (.int v23), .val (.int v29), .val (.ref a32), .val (.int f1), .val (.int f2), .val (.int f3), .val (.int f1), .unset, .unset, .unset, .unset]) (Sf := fun z => [(.int z)]) (dsf := fun z => [(a32, .inr ("com/example/lotwise/lotwise/search/SparseVector", [("com/example/lotwise/lotwise/search/SparseVector", "values", "[D", (.ref bv)), ("com/example/lotwise/lotwise/search/SparseVector", "index", "[I", (.ref bi)), ("com/example/lotwise/lotwise/search/SparseVector", "count", "I", (.int n3))])), (bv, .inl (.double, [(.double w3_0), (.double w3_1), (.double w3_2), (.double w3_3)])), (bi, .inl (.int, [(.int x3_0), (.int x3_1), (.int x3_2), (.int x3_3)]))]) ?_ ?_
  · intro J
    refine oW.iload (pc' := 114) K at_112 rfl rfl ?_
    refine oW.if_eq (pc' := 133) (pc3 := 117) K at_114 (by decide) (by decide) rfl (fun c114 => ?_) (fun c114 => ?_)
    · simp only [oLt32, oEq32, Int32.reduceToInt] at c114
      refine oW.iconst (v := (0 : Int32)) (pc' := 134) K at_133 (by decide) rfl ?_
      exact J (0 : Int32) (by first | omega | (have oTs' := oTs; omega) | (simp only [Int32.reduceToInt, Int64.reduceToInt]; omega))
    · simp only [oLt32, oEq32, Int32.reduceToInt] at c114
      refine oW.iload (pc' := 119) K at_117 rfl rfl ?_
      refine oW.if_eq (pc' := 129) (pc3 := 122) K at_119 (by decide) (by decide) rfl (fun c119 => ?_) (fun c119 => ?_)
      · simp only [oLt32, oEq32, Int32.reduceToInt] at c119
        refine oW.iconst (v := (1 : Int32)) (pc' := 130) K at_129 (by decide) rfl ?_
        refine oW.goto (pc' := 134) K at_130 (by decide) (by decide) ?_
        exact J (1 : Int32) (by first | omega | (have oTs' := oTs; omega) | (simp only [Int32.reduceToInt, Int64.reduceToInt]; omega))
      · simp only [oLt32, oEq32, Int32.reduceToInt] at c119
        refine oW.iload (pc' := 124) K at_122 rfl rfl ?_
        refine oW.iload (pc' := 126) K at_124 rfl rfl ?_
        refine oW.icmp_eq (pc' := 133) (pc3 := 129) K at_126 (by decide) (by decide) rfl (fun c126 => ?_) (fun c126 => ?_)
        · simp only [oLt32, oEq32, Int32.reduceToInt] at c126
          refine oW.iconst (v := (0 : Int32)) (pc' := 134) K at_133 (by decide) rfl ?_
          exact J (0 : Int32) (by first | omega | (have oTs' := oTs; omega) | (simp only [Int32.reduceToInt, Int64.reduceToInt]; omega))
        · simp only [oLt32, oEq32, Int32.reduceToInt] at c126
          refine oW.iconst (v := (1 : Int32)) (pc' := 130) K at_129 (by decide) rfl ?_
          refine oW.goto (pc' := 134) K at_130 (by decide) (by decide) ?_
          exact J (1 : Int32) (by first | omega | (have oTs' := oTs; omega) | (simp only [Int32.reduceToInt, Int64.reduceToInt]; omega))
  intro g2 hg2
  refine oW.istore (Ls' := #[.val (.int p0), .val (.int p1), .val (.int p2), .val (.int p3), .val (.int p4), .val (.int p5), .val (.int v2), .val (.int v7), .val (.int v12), .val (.int v17), .val (.int v23), .val (.int v29), .val (.ref a32), .val (.int f1), .val (.int f2), .val (.int f3), .val (.int f1), .val (.int g2), .unset, .unset, .unset]) (pc' := 136) K at_134 rfl rfl ?_
  refine oW.join (F := fun z : Int32 => (z.toInt = 1 ∧ (v29.toInt ≠ 0 ∧ ¬ (v17.toInt ≠ 0 ∧ v2.toInt = v12.toInt) ∧ ¬ (v23.toInt ≠ 0 ∧ v7.toInt = v12.toInt)) ∨ z.toInt = 0 ∧ ¬ (v29.toInt ≠ 0 ∧ ¬ (v17.toInt ≠ 0 ∧ v2.toInt = v12.toInt) ∧ ¬ (v23.toInt ≠ 0 ∧ v7.toInt = v12.toInt)))) (pcj := 170) (Lf := fun z => #[.val (.int p0), .val (.int p1), .val (.int p2), .val (.int p3), .val (.int p4), .val (.int p5), .val (.int v2), .val (.int v7), .val (.int v12), .val (.int v17), .val (.int v23), .val (.int v29), .val (.ref a32), .val (.int f1), .val (.int f2), .val (.int f3), .val (.int f1), .val (.int g2), .unset, .unset, .unset]) (Sf := fun z => [(.int z)]) (dsf := fun z => [(a32, .inr ("com/example/lotwise/lotwise/search/SparseVector", [("com/example/lotwise/lotwise/search/SparseVector", "values", "[D", (.ref bv)), ("com/example/lotwise/lotwise/search/SparseVector", "index", "[I", (.ref bi)), ("com/example/lotwise/lotwise/search/SparseVector", "count", "I", (.int n3))])), (bv, .inl (.double, [(.double w3_0), (.double w3_1), (.double w3_2), (.double w3_3)])), (bi, .inl (.int, [(.int x3_0), (.int x3_1), (.int x3_2), (.int x3_3)]))]) ?_ ?_
  · intro J
    refine oW.iload (pc' := 138) K at_136 rfl rfl ?_
    refine oW.if_eq (pc' := 169) (pc3 := 141) K at_138 (by decide) (by decide) rfl (fun c138 => ?_) (fun c138 => ?_)
    · simp only [oLt32, oEq32, Int32.reduceToInt] at c138
      refine oW.iconst (v := (0 : Int32)) (pc' := 170) K at_169 (by decide) rfl ?_
      exact J (0 : Int32) (by first | omega | (have oTs' := oTs; omega) | (simp only [Int32.reduceToInt, Int64.reduceToInt]; omega))
    · simp only [oLt32, oEq32, Int32.reduceToInt] at c138
      refine oW.iload (pc' := 143) K at_141 rfl rfl ?_
      refine oW.if_eq (pc' := 153) (pc3 := 146) K at_143 (by decide) (by decide) rfl (fun c143 => ?_) (fun c143 => ?_)
      · simp only [oLt32, oEq32, Int32.reduceToInt] at c143
        refine oW.iload (pc' := 155) K at_153 rfl rfl ?_
        refine oW.if_eq (pc' := 165) (pc3 := 158) K at_155 (by decide) (by decide) rfl (fun c155 => ?_) (fun c155 => ?_)
        · simp only [oLt32, oEq32, Int32.reduceToInt] at c155
          refine oW.iconst (v := (1 : Int32)) (pc' := 166) K at_165 (by decide) rfl ?_
          refine oW.goto (pc' := 170) K at_166 (by decide) (by decide) ?_
          exact J (1 : Int32) (by first | omega | (have oTs' := oTs; omega) | (simp only [Int32.reduceToInt, Int64.reduceToInt]; omega))
        · simp only [oLt32, oEq32, Int32.reduceToInt] at c155
          refine oW.iload (pc' := 160) K at_158 rfl rfl ?_
          refine oW.iload (pc' := 162) K at_160 rfl rfl ?_
          refine oW.icmp_eq (pc' := 169) (pc3 := 165) K at_162 (by decide) (by decide) rfl (fun c162 => ?_) (fun c162 => ?_)
          · simp only [oLt32, oEq32, Int32.reduceToInt] at c162
            refine oW.iconst (v := (0 : Int32)) (pc' := 170) K at_169 (by decide) rfl ?_
            exact J (0 : Int32) (by first | omega | (have oTs' := oTs; omega) | (simp only [Int32.reduceToInt, Int64.reduceToInt]; omega))
          · simp only [oLt32, oEq32, Int32.reduceToInt] at c162
            refine oW.iconst (v := (1 : Int32)) (pc' := 166) K at_165 (by decide) rfl ?_
            refine oW.goto (pc' := 170) K at_166 (by decide) (by decide) ?_
            exact J (1 : Int32) (by first | omega | (have oTs' := oTs; omega) | (simp only [Int32.reduceToInt, Int64.reduceToInt]; omega))
      · simp only [oLt32, oEq32, Int32.reduceToInt] at c143
        refine oW.iload (pc' := 148) K at_146 rfl rfl ?_
        refine oW.iload (pc' := 150) K at_148 rfl rfl ?_
        refine oW.icmp_eq (pc' := 169) (pc3 := 153) K at_150 (by decide) (by decide) rfl (fun c150 => ?_) (fun c150 => ?_)
        · simp only [oLt32, oEq32, Int32.reduceToInt] at c150
          refine oW.iconst (v := (0 : Int32)) (pc' := 170) K at_169 (by decide) rfl ?_
          exact J (0 : Int32) (by first | omega | (have oTs' := oTs; omega) | (simp only [Int32.reduceToInt, Int64.reduceToInt]; omega))
        · simp only [oLt32, oEq32, Int32.reduceToInt] at c150
          refine oW.iload (pc' := 155) K at_153 rfl rfl ?_
          refine oW.if_eq (pc' := 165) (pc3 := 158) K at_155 (by decide) (by decide) rfl (fun c155 => ?_) (fun c155 => ?_)
          · simp only [oLt32, oEq32, Int32.reduceToInt] at c155
            refine oW.iconst (v := (1 : Int32)) (pc' := 166) K at_165 (by decide) rfl ?_
            refine oW.goto (pc' := 170) K at_166 (by decide) (by decide) ?_
            exact J (1 : Int32) (by first | omega | (have oTs' := oTs; omega) | (simp only [Int32.reduceToInt, Int64.reduceToInt]; omega))
          · simp only [oLt32, oEq32, Int32.reduceToInt] at c155
            refine oW.iload (pc' := 160) K at_158 rfl rfl ?_
            refine oW.iload (pc' := 162) K at_160 rfl rfl ?_
            refine oW.icmp_eq (pc' := 169) (pc3 := 165) K at_162 (by decide) (by decide) rfl (fun c162 => ?_) (fun c162 => ?_)
            · simp only [oLt32, oEq32, Int32.reduceToInt] at c162
              refine oW.iconst (v := (0 : Int32)) (pc' := 170) K at_169 (by decide) rfl ?_
              exact J (0 : Int32) (by first | omega | (have oTs' := oTs; omega) | (simp only [Int32.reduceToInt, Int64.reduceToInt]; omega))
            · simp only [oLt32, oEq32, Int32.reduceToInt] at c162
              refine oW.iconst (v := (1 : Int32)) (pc' := 166) K at_165 (by decide) rfl ?_
              refine oW.goto (pc' := 170) K at_166 (by decide) (by decide) ?_
              exact J (1 : Int32) (by first | omega | (have oTs' := oTs; omega) | (simp only [Int32.reduceToInt, Int64.reduceToInt]; omega))
  intro g3 hg3
  refine oW.istore (Ls' := #[.val (.int p0), .val (.int p1), .val (.int p2), .val (.int p3), .val (.int p4), .val (.int p5), .val (.int v2), .val (.int v7), .val (.int v12), .val (.int v17), .val (.int v23), .val (.int v29), .val (.ref a32), .val (.int f1), .val (.int f2), .val (.int f3), .val (.int f1), .val (.int g2), .val (.int g3), .unset, .unset]) (pc' := 172) K at_170 rfl rfl ?_
  refine oW.iconst (v := (3 : Int32)) (pc' := 173) K at_172 (by decide) rfl ?_
  refine oW.newarr (n := 3) (cells' := 4) (slots' := 14) (dsf := fun z => [(a32, .inr ("com/example/lotwise/lotwise/search/SparseVector", [("com/example/lotwise/lotwise/search/SparseVector", "values", "[D", (.ref bv)), ("com/example/lotwise/lotwise/search/SparseVector", "index", "[I", (.ref bi)), ("com/example/lotwise/lotwise/search/SparseVector", "count", "I", (.int n3))])), (bv, .inl (.double, [(.double w3_0), (.double w3_1), (.double w3_2), (.double w3_3)])), (bi, .inl (.int, [(.int x3_0), (.int x3_1), (.int x3_2), (.int x3_3)])), (z, .inl (.int, [(.int (0 : Int32)), (.int (0 : Int32)), (.int (0 : Int32))]))]) (pc' := 175) K (hw _ (List.mem_of_getElem? (i := 12) rfl)) at_173 rfl (by decide) (by decide) (by decide) (by decide) rfl rfl (fun _ => rfl) rfl ?_
  intro a173 ha173
  refine oW.astore (Ls' := #[.val (.int p0), .val (.int p1), .val (.int p2), .val (.int p3), .val (.int p4), .val (.int p5), .val (.int v2), .val (.int v7), .val (.int v12), .val (.int v17), .val (.int v23), .val (.int v29), .val (.ref a32), .val (.int f1), .val (.int f2), .val (.int f3), .val (.int f1), .val (.int g2), .val (.int g3), .val (.ref a173), .unset]) (pc' := 177) K at_175 rfl rfl rfl ?_
  refine oW.iconst (v := (0 : Int32)) (pc' := 178) K at_177 (by decide) rfl ?_
  refine oW.istore (Ls' := #[.val (.int p0), .val (.int p1), .val (.int p2), .val (.int p3), .val (.int p4), .val (.int p5), .val (.int v2), .val (.int v7), .val (.int v12), .val (.int v17), .val (.int v23), .val (.int v29), .val (.ref a32), .val (.int f1), .val (.int f2), .val (.int f3), .val (.int f1), .val (.int g2), .val (.int g3), .val (.ref a173), .val (.int (0 : Int32))]) (pc' := 180) K at_178 rfl rfl ?_
  refine oW.join (F := fun z : Int32 × Int32 × Int32 × Int32 => oJN (f1.toInt) (0) z.1.toInt (v2.toInt) (0) (0) (0) z.2.1.toInt z.2.2.1.toInt z.2.2.2.toInt ∧ 0 ≤ z.1.toInt ∧ z.1.toInt ≤ 1) (pcj := 195) (Lf := fun z => #[.val (.int p0), .val (.int p1), .val (.int p2), .val (.int p3), .val (.int p4), .val (.int p5), .val (.int v2), .val (.int v7), .val (.int v12), .val (.int v17), .val (.int v23), .val (.int v29), .val (.ref a32), .val (.int f1), .val (.int f2), .val (.int f3), .val (.int f1), .val (.int g2), .val (.int g3), .val (.ref a173), .val (.int z.1)]) (Sf := fun z => []) (dsf := fun z => [(a32, .inr ("com/example/lotwise/lotwise/search/SparseVector", [("com/example/lotwise/lotwise/search/SparseVector", "values", "[D", (.ref bv)), ("com/example/lotwise/lotwise/search/SparseVector", "index", "[I", (.ref bi)), ("com/example/lotwise/lotwise/search/SparseVector", "count", "I", (.int n3))])), (bv, .inl (.double, [(.double w3_0), (.double w3_1), (.double w3_2), (.double w3_3)])), (bi, .inl (.int, [(.int x3_0), (.int x3_1), (.int x3_2), (.int x3_3)])), (a173, .inl (.int, [(.int z.2.1), (.int z.2.2.1), (.int z.2.2.2)]))]) ?_ ?_
  · intro J
    refine oW.iload (pc' := 182) K at_180 rfl rfl ?_
    refine oW.if_eq (pc' := 195) (pc3 := 185) K at_182 (by decide) (by decide) rfl (fun c182 => ?_) (fun c182 => ?_)
    · simp only [oLt32, oEq32, Int32.reduceToInt] at c182
      exact J ((0 : Int32), (0 : Int32), (0 : Int32), (0 : Int32)) (⟨by unfold oJN; dsimp only; first | omega | (have oTs' := oTs; omega) | (simp only [Int32.reduceToInt, Int64.reduceToInt]; omega), by dsimp only; first | omega | (have oTs' := oTs; omega) | (simp only [Int32.reduceToInt, Int64.reduceToInt]; omega)⟩)
    · simp only [oLt32, oEq32, Int32.reduceToInt] at c182
      refine oW.aload (pc' := 187) K at_185 rfl rfl rfl ?_
      refine oW.iload (pc' := 189) K at_187 rfl rfl ?_
      refine oW.iload (pc' := 191) K at_189 rfl rfl ?_
      refine oW.iastore (i := 3) (k := 0) (ds' := [(a32, .inr ("com/example/lotwise/lotwise/search/SparseVector", [("com/example/lotwise/lotwise/search/SparseVector", "values", "[D", (.ref bv)), ("com/example/lotwise/lotwise/search/SparseVector", "index", "[I", (.ref bi)), ("com/example/lotwise/lotwise/search/SparseVector", "count", "I", (.int n3))])), (bv, .inl (.double, [(.double w3_0), (.double w3_1), (.double w3_2), (.double w3_3)])), (bi, .inl (.int, [(.int x3_0), (.int x3_1), (.int x3_2), (.int x3_3)])), (a173, .inl (.int, [(.int v2), (.int (0 : Int32)), (.int (0 : Int32))]))]) (pc' := 192) K at_191 rfl rfl (by decide) (Nat.lt_of_sub_eq_succ rfl) rfl rfl ?_
      refine oW.iinc (v := (1 : Int32)) (Ls' := #[.val (.int p0), .val (.int p1), .val (.int p2), .val (.int p3), .val (.int p4), .val (.int p5), .val (.int v2), .val (.int v7), .val (.int v12), .val (.int v17), .val (.int v23), .val (.int v29), .val (.ref a32), .val (.int f1), .val (.int f2), .val (.int f3), .val (.int f1), .val (.int g2), .val (.int g3), .val (.ref a173), .val (.int (1 : Int32))]) (pc' := 195) K at_192 rfl (by decide) rfl rfl ?_
      exact J ((1 : Int32), v2, (0 : Int32), (0 : Int32)) (⟨by unfold oJN; dsimp only; first | omega | (have oTs' := oTs; omega) | (simp only [Int32.reduceToInt, Int64.reduceToInt]; omega), by dsimp only; first | omega | (have oTs' := oTs; omega) | (simp only [Int32.reduceToInt, Int64.reduceToInt]; omega)⟩)
  rintro ⟨ec, ea, eb, ed⟩ hec
  dsimp only at hec ⊢
  obtain ⟨hec, bec⟩ := hec
  have J1 := own_J hn1 hf1 hec (by refine ⟨?_, ?_, ?_, ?_⟩ <;> intros <;> omega)
  have bJ1 := J1.1
  refine oW.join (F := fun z : Int32 × Int32 × Int32 × Int32 => oJN (g2.toInt) (ec.toInt) z.1.toInt (v7.toInt) (ea.toInt) (eb.toInt) (ed.toInt) z.2.1.toInt z.2.2.1.toInt z.2.2.2.toInt ∧ 0 ≤ z.1.toInt ∧ z.1.toInt ≤ 2) (pcj := 210) (Lf := fun z => #[.val (.int p0), .val (.int p1), .val (.int p2), .val (.int p3), .val (.int p4), .val (.int p5), .val (.int v2), .val (.int v7), .val (.int v12), .val (.int v17), .val (.int v23), .val (.int v29), .val (.ref a32), .val (.int f1), .val (.int f2), .val (.int f3), .val (.int f1), .val (.int g2), .val (.int g3), .val (.ref a173), .val (.int z.1)]) (Sf := fun z => []) (dsf := fun z => [(a32, .inr ("com/example/lotwise/lotwise/search/SparseVector", [("com/example/lotwise/lotwise/search/SparseVector", "values", "[D", (.ref bv)), ("com/example/lotwise/lotwise/search/SparseVector", "index", "[I", (.ref bi)), ("com/example/lotwise/lotwise/search/SparseVector", "count", "I", (.int n3))])), (bv, .inl (.double, [(.double w3_0), (.double w3_1), (.double w3_2), (.double w3_3)])), (bi, .inl (.int, [(.int x3_0), (.int x3_1), (.int x3_2), (.int x3_3)])), (a173, .inl (.int, [(.int z.2.1), (.int z.2.2.1), (.int z.2.2.2)]))]) ?_ ?_
  · intro J
    have hec : ec = 0 ∨ ec = 1 := by simp only [oEq32, Int32.reduceToInt]; omega
    rcases hec with hec | hec
    · subst hec
      refine oW.iload (pc' := 197) K at_195 rfl rfl ?_
      refine oW.if_eq (pc' := 210) (pc3 := 200) K at_197 (by decide) (by decide) rfl (fun c197 => ?_) (fun c197 => ?_)
      · simp only [oLt32, oEq32, Int32.reduceToInt] at c197
        exact J ((0 : Int32), ea, eb, ed) (⟨by unfold oJN; dsimp only; first | omega | (have oTs' := oTs; omega) | (simp only [Int32.reduceToInt, Int64.reduceToInt]; omega), by dsimp only; first | omega | (have oTs' := oTs; omega) | (simp only [Int32.reduceToInt, Int64.reduceToInt]; omega)⟩)
      · simp only [oLt32, oEq32, Int32.reduceToInt] at c197
        refine oW.aload (pc' := 202) K at_200 rfl rfl rfl ?_
        refine oW.iload (pc' := 204) K at_202 rfl rfl ?_
        refine oW.iload (pc' := 206) K at_204 rfl rfl ?_
        refine oW.iastore (i := 3) (k := 0) (ds' := [(a32, .inr ("com/example/lotwise/lotwise/search/SparseVector", [("com/example/lotwise/lotwise/search/SparseVector", "values", "[D", (.ref bv)), ("com/example/lotwise/lotwise/search/SparseVector", "index", "[I", (.ref bi)), ("com/example/lotwise/lotwise/search/SparseVector", "count", "I", (.int n3))])), (bv, .inl (.double, [(.double w3_0), (.double w3_1), (.double w3_2), (.double w3_3)])), (bi, .inl (.int, [(.int x3_0), (.int x3_1), (.int x3_2), (.int x3_3)])), (a173, .inl (.int, [(.int v7), (.int eb), (.int ed)]))]) (pc' := 207) K at_206 rfl rfl (by decide) (Nat.lt_of_sub_eq_succ rfl) rfl rfl ?_
        refine oW.iinc (v := (1 : Int32)) (Ls' := #[.val (.int p0), .val (.int p1), .val (.int p2), .val (.int p3), .val (.int p4), .val (.int p5), .val (.int v2), .val (.int v7), .val (.int v12), .val (.int v17), .val (.int v23), .val (.int v29), .val (.ref a32), .val (.int f1), .val (.int f2), .val (.int f3), .val (.int f1), .val (.int g2), .val (.int g3), .val (.ref a173), .val (.int (1 : Int32))]) (pc' := 210) K at_207 rfl (by decide) rfl rfl ?_
        exact J ((1 : Int32), v7, eb, ed) (⟨by unfold oJN; dsimp only; first | omega | (have oTs' := oTs; omega) | (simp only [Int32.reduceToInt, Int64.reduceToInt]; omega), by dsimp only; first | omega | (have oTs' := oTs; omega) | (simp only [Int32.reduceToInt, Int64.reduceToInt]; omega)⟩)
    · subst hec
      refine oW.iload (pc' := 197) K at_195 rfl rfl ?_
      refine oW.if_eq (pc' := 210) (pc3 := 200) K at_197 (by decide) (by decide) rfl (fun c197 => ?_) (fun c197 => ?_)
      · simp only [oLt32, oEq32, Int32.reduceToInt] at c197
        exact J ((1 : Int32), ea, eb, ed) (⟨by unfold oJN; dsimp only; first | omega | (have oTs' := oTs; omega) | (simp only [Int32.reduceToInt, Int64.reduceToInt]; omega), by dsimp only; first | omega | (have oTs' := oTs; omega) | (simp only [Int32.reduceToInt, Int64.reduceToInt]; omega)⟩)
      · simp only [oLt32, oEq32, Int32.reduceToInt] at c197
        refine oW.aload (pc' := 202) K at_200 rfl rfl rfl ?_
        refine oW.iload (pc' := 204) K at_202 rfl rfl ?_
        refine oW.iload (pc' := 206) K at_204 rfl rfl ?_
        refine oW.iastore (i := 3) (k := 1) (ds' := [(a32, .inr ("com/example/lotwise/lotwise/search/SparseVector", [("com/example/lotwise/lotwise/search/SparseVector", "values", "[D", (.ref bv)), ("com/example/lotwise/lotwise/search/SparseVector", "index", "[I", (.ref bi)), ("com/example/lotwise/lotwise/search/SparseVector", "count", "I", (.int n3))])), (bv, .inl (.double, [(.double w3_0), (.double w3_1), (.double w3_2), (.double w3_3)])), (bi, .inl (.int, [(.int x3_0), (.int x3_1), (.int x3_2), (.int x3_3)])), (a173, .inl (.int, [(.int ea), (.int v7), (.int ed)]))]) (pc' := 207) K at_206 rfl rfl (by decide) (Nat.lt_of_sub_eq_succ rfl) rfl rfl ?_
        refine oW.iinc (v := (2 : Int32)) (Ls' := #[.val (.int p0), .val (.int p1), .val (.int p2), .val (.int p3), .val (.int p4), .val (.int p5), .val (.int v2), .val (.int v7), .val (.int v12), .val (.int v17), .val (.int v23), .val (.int v29), .val (.ref a32), .val (.int f1), .val (.int f2), .val (.int f3), .val (.int f1), .val (.int g2), .val (.int g3), .val (.ref a173), .val (.int (2 : Int32))]) (pc' := 210) K at_207 rfl (by decide) rfl rfl ?_
        exact J ((2 : Int32), ea, v7, ed) (⟨by unfold oJN; dsimp only; first | omega | (have oTs' := oTs; omega) | (simp only [Int32.reduceToInt, Int64.reduceToInt]; omega), by dsimp only; first | omega | (have oTs' := oTs; omega) | (simp only [Int32.reduceToInt, Int64.reduceToInt]; omega)⟩)
  rintro ⟨ec_1, ea_1, eb_1, ed_1⟩ hec_1
  dsimp only at hec_1 ⊢
  obtain ⟨hec_1, bec_1⟩ := hec_1
  have J2 := own_J hn2 hg2 hec_1 (J1)
  have bJ2 := J2.1
  refine oW.join (F := fun z : Int32 × Int32 × Int32 × Int32 => oJN (g3.toInt) (ec_1.toInt) z.1.toInt (v12.toInt) (ea_1.toInt) (eb_1.toInt) (ed_1.toInt) z.2.1.toInt z.2.2.1.toInt z.2.2.2.toInt ∧ 0 ≤ z.1.toInt ∧ z.1.toInt ≤ 3) (pcj := 225) (Lf := fun z => #[.val (.int p0), .val (.int p1), .val (.int p2), .val (.int p3), .val (.int p4), .val (.int p5), .val (.int v2), .val (.int v7), .val (.int v12), .val (.int v17), .val (.int v23), .val (.int v29), .val (.ref a32), .val (.int f1), .val (.int f2), .val (.int f3), .val (.int f1), .val (.int g2), .val (.int g3), .val (.ref a173), .val (.int z.1)]) (Sf := fun z => []) (dsf := fun z => [(a32, .inr ("com/example/lotwise/lotwise/search/SparseVector", [("com/example/lotwise/lotwise/search/SparseVector", "values", "[D", (.ref bv)), ("com/example/lotwise/lotwise/search/SparseVector", "index", "[I", (.ref bi)), ("com/example/lotwise/lotwise/search/SparseVector", "count", "I", (.int n3))])), (bv, .inl (.double, [(.double w3_0), (.double w3_1), (.double w3_2), (.double w3_3)])), (bi, .inl (.int, [(.int x3_0), (.int x3_1), (.int x3_2), (.int x3_3)])), (a173, .inl (.int, [(.int z.2.1), (.int z.2.2.1), (.int z.2.2.2)]))]) ?_ ?_
  · intro J
    have hec_1 : ec_1 = 0 ∨ ec_1 = 1 ∨ ec_1 = 2 := by simp only [oEq32, Int32.reduceToInt]; omega
    rcases hec_1 with hec_1 | hec_1 | hec_1
    · subst hec_1
      refine oW.iload (pc' := 212) K at_210 rfl rfl ?_
      refine oW.if_eq (pc' := 225) (pc3 := 215) K at_212 (by decide) (by decide) rfl (fun c212 => ?_) (fun c212 => ?_)
      · simp only [oLt32, oEq32, Int32.reduceToInt] at c212
        exact J ((0 : Int32), ea_1, eb_1, ed_1) (⟨by unfold oJN; dsimp only; first | omega | (have oTs' := oTs; omega) | (simp only [Int32.reduceToInt, Int64.reduceToInt]; omega), by dsimp only; first | omega | (have oTs' := oTs; omega) | (simp only [Int32.reduceToInt, Int64.reduceToInt]; omega)⟩)
      · simp only [oLt32, oEq32, Int32.reduceToInt] at c212
        refine oW.aload (pc' := 217) K at_215 rfl rfl rfl ?_
        refine oW.iload (pc' := 219) K at_217 rfl rfl ?_
        refine oW.iload (pc' := 221) K at_219 rfl rfl ?_
        refine oW.iastore (i := 3) (k := 0) (ds' := [(a32, .inr ("com/example/lotwise/lotwise/search/SparseVector", [("com/example/lotwise/lotwise/search/SparseVector", "values", "[D", (.ref bv)), ("com/example/lotwise/lotwise/search/SparseVector", "index", "[I", (.ref bi)), ("com/example/lotwise/lotwise/search/SparseVector", "count", "I", (.int n3))])), (bv, .inl (.double, [(.double w3_0), (.double w3_1), (.double w3_2), (.double w3_3)])), (bi, .inl (.int, [(.int x3_0), (.int x3_1), (.int x3_2), (.int x3_3)])), (a173, .inl (.int, [(.int v12), (.int eb_1), (.int ed_1)]))]) (pc' := 222) K at_221 rfl rfl (by decide) (Nat.lt_of_sub_eq_succ rfl) rfl rfl ?_
        refine oW.iinc (v := (1 : Int32)) (Ls' := #[.val (.int p0), .val (.int p1), .val (.int p2), .val (.int p3), .val (.int p4), .val (.int p5), .val (.int v2), .val (.int v7), .val (.int v12), .val (.int v17), .val (.int v23), .val (.int v29), .val (.ref a32), .val (.int f1), .val (.int f2), .val (.int f3), .val (.int f1), .val (.int g2), .val (.int g3), .val (.ref a173), .val (.int (1 : Int32))]) (pc' := 225) K at_222 rfl (by decide) rfl rfl ?_
        exact J ((1 : Int32), v12, eb_1, ed_1) (⟨by unfold oJN; dsimp only; first | omega | (have oTs' := oTs; omega) | (simp only [Int32.reduceToInt, Int64.reduceToInt]; omega), by dsimp only; first | omega | (have oTs' := oTs; omega) | (simp only [Int32.reduceToInt, Int64.reduceToInt]; omega)⟩)
    · subst hec_1
      refine oW.iload (pc' := 212) K at_210 rfl rfl ?_
      refine oW.if_eq (pc' := 225) (pc3 := 215) K at_212 (by decide) (by decide) rfl (fun c212 => ?_) (fun c212 => ?_)
      · simp only [oLt32, oEq32, Int32.reduceToInt] at c212
        exact J ((1 : Int32), ea_1, eb_1, ed_1) (⟨by unfold oJN; dsimp only; first | omega | (have oTs' := oTs; omega) | (simp only [Int32.reduceToInt, Int64.reduceToInt]; omega), by dsimp only; first | omega | (have oTs' := oTs; omega) | (simp only [Int32.reduceToInt, Int64.reduceToInt]; omega)⟩)
      · simp only [oLt32, oEq32, Int32.reduceToInt] at c212
        refine oW.aload (pc' := 217) K at_215 rfl rfl rfl ?_
        refine oW.iload (pc' := 219) K at_217 rfl rfl ?_
        refine oW.iload (pc' := 221) K at_219 rfl rfl ?_
        refine oW.iastore (i := 3) (k := 1) (ds' := [(a32, .inr ("com/example/lotwise/lotwise/search/SparseVector", [("com/example/lotwise/lotwise/search/SparseVector", "values", "[D", (.ref bv)), ("com/example/lotwise/lotwise/search/SparseVector", "index", "[I", (.ref bi)), ("com/example/lotwise/lotwise/search/SparseVector", "count", "I", (.int n3))])), (bv, .inl (.double, [(.double w3_0), (.double w3_1), (.double w3_2), (.double w3_3)])), (bi, .inl (.int, [(.int x3_0), (.int x3_1), (.int x3_2), (.int x3_3)])), (a173, .inl (.int, [(.int ea_1), (.int v12), (.int ed_1)]))]) (pc' := 222) K at_221 rfl rfl (by decide) (Nat.lt_of_sub_eq_succ rfl) rfl rfl ?_
        refine oW.iinc (v := (2 : Int32)) (Ls' := #[.val (.int p0), .val (.int p1), .val (.int p2), .val (.int p3), .val (.int p4), .val (.int p5), .val (.int v2), .val (.int v7), .val (.int v12), .val (.int v17), .val (.int v23), .val (.int v29), .val (.ref a32), .val (.int f1), .val (.int f2), .val (.int f3), .val (.int f1), .val (.int g2), .val (.int g3), .val (.ref a173), .val (.int (2 : Int32))]) (pc' := 225) K at_222 rfl (by decide) rfl rfl ?_
        exact J ((2 : Int32), ea_1, v12, ed_1) (⟨by unfold oJN; dsimp only; first | omega | (have oTs' := oTs; omega) | (simp only [Int32.reduceToInt, Int64.reduceToInt]; omega), by dsimp only; first | omega | (have oTs' := oTs; omega) | (simp only [Int32.reduceToInt, Int64.reduceToInt]; omega)⟩)
    · subst hec_1
      refine oW.iload (pc' := 212) K at_210 rfl rfl ?_
      refine oW.if_eq (pc' := 225) (pc3 := 215) K at_212 (by decide) (by decide) rfl (fun c212 => ?_) (fun c212 => ?_)
      · simp only [oLt32, oEq32, Int32.reduceToInt] at c212
        exact J ((2 : Int32), ea_1, eb_1, ed_1) (⟨by unfold oJN; dsimp only; first | omega | (have oTs' := oTs; omega) | (simp only [Int32.reduceToInt, Int64.reduceToInt]; omega), by dsimp only; first | omega | (have oTs' := oTs; omega) | (simp only [Int32.reduceToInt, Int64.reduceToInt]; omega)⟩)
      · simp only [oLt32, oEq32, Int32.reduceToInt] at c212
        refine oW.aload (pc' := 217) K at_215 rfl rfl rfl ?_
        refine oW.iload (pc' := 219) K at_217 rfl rfl ?_
        refine oW.iload (pc' := 221) K at_219 rfl rfl ?_
        refine oW.iastore (i := 3) (k := 2) (ds' := [(a32, .inr ("com/example/lotwise/lotwise/search/SparseVector", [("com/example/lotwise/lotwise/search/SparseVector", "values", "[D", (.ref bv)), ("com/example/lotwise/lotwise/search/SparseVector", "index", "[I", (.ref bi)), ("com/example/lotwise/lotwise/search/SparseVector", "count", "I", (.int n3))])), (bv, .inl (.double, [(.double w3_0), (.double w3_1), (.double w3_2), (.double w3_3)])), (bi, .inl (.int, [(.int x3_0), (.int x3_1), (.int x3_2), (.int x3_3)])), (a173, .inl (.int, [(.int ea_1), (.int eb_1), (.int v12)]))]) (pc' := 222) K at_221 rfl rfl (by decide) (Nat.lt_of_sub_eq_succ rfl) rfl rfl ?_
        refine oW.iinc (v := (3 : Int32)) (Ls' := #[.val (.int p0), .val (.int p1), .val (.int p2), .val (.int p3), .val (.int p4), .val (.int p5), .val (.int v2), .val (.int v7), .val (.int v12), .val (.int v17), .val (.int v23), .val (.int v29), .val (.ref a32), .val (.int f1), .val (.int f2), .val (.int f3), .val (.int f1), .val (.int g2), .val (.int g3), .val (.ref a173), .val (.int (3 : Int32))]) (pc' := 225) K at_222 rfl (by decide) rfl rfl ?_
        exact J ((3 : Int32), ea_1, eb_1, v12) (⟨by unfold oJN; dsimp only; first | omega | (have oTs' := oTs; omega) | (simp only [Int32.reduceToInt, Int64.reduceToInt]; omega), by dsimp only; first | omega | (have oTs' := oTs; omega) | (simp only [Int32.reduceToInt, Int64.reduceToInt]; omega)⟩)
  rintro ⟨ec_2, ea_2, eb_2, ed_2⟩ hec_2
  dsimp only at hec_2 ⊢
  obtain ⟨hec_2, bec_2⟩ := hec_2
  have J3 := own_J hn3 hg3 hec_2 (J2)
  have bJ3 := J3.1
  refine oW.aload (pc' := 227) K at_225 rfl rfl rfl ?_
  refine oW.getf (i := 0) (q := 0) (pc' := 230) K (hw _ (List.mem_of_getElem? (i := 22) rfl)) at_227 rfl rfl rfl ?_
  refine oW.alen (i := 1) (v := (4 : Int32)) (pc' := 231) K at_230 rfl rfl rfl ?_
  refine oW.iconst (v := (4 : Int32)) (pc' := 232) K at_231 (by decide) rfl ?_
  refine oW.icmp_ne (pc' := 245) (pc3 := 235) K at_232 (by decide) (by decide) rfl (fun q => absurd q (by decide)) (fun _ => ?_)
  refine oW.aload (pc' := 237) K at_235 rfl rfl rfl ?_
  refine oW.getf (i := 0) (q := 1) (pc' := 240) K (hw _ (List.mem_of_getElem? (i := 23) rfl)) at_237 rfl rfl rfl ?_
  refine oW.alen (i := 2) (v := (4 : Int32)) (pc' := 241) K at_240 rfl rfl rfl ?_
  refine oW.iconst (v := (4 : Int32)) (pc' := 242) K at_241 (by decide) rfl ?_
  refine oW.icmp_eq (pc' := 247) (pc3 := 245) K at_242 (by decide) (by decide) rfl (fun _ => ?_) (fun q => absurd q (by decide))
  refine oW.aload (pc' := 249) K at_247 rfl rfl rfl ?_
  refine oW.getf (i := 0) (q := 2) (pc' := 252) K (hw _ (List.mem_of_getElem? (i := 24) rfl)) at_249 rfl rfl rfl ?_
  refine oW.iload (pc' := 254) K at_252 rfl rfl ?_
  refine oW.icmp_eq (pc' := 259) (pc3 := 257) K at_254 (by decide) (by decide) rfl (fun c254 => ?_) (fun q => absurd (oEq32.mpr (by omega)) q)
  refine oW.join (F := fun _ : Unit => True) (pcj := 280) (Lf := fun z => #[.val (.int p0), .val (.int p1), .val (.int p2), .val (.int p3), .val (.int p4), .val (.int p5), .val (.int v2), .val (.int v7), .val (.int v12), .val (.int v17), .val (.int v23), .val (.int v29), .val (.ref a32), .val (.int f1), .val (.int f2), .val (.int f3), .val (.int f1), .val (.int g2), .val (.int g3), .val (.ref a173), .val (.int ec_2)]) (Sf := fun _ => []) (dsf := fun _ => [(a32, .inr ("com/example/lotwise/lotwise/search/SparseVector", [("com/example/lotwise/lotwise/search/SparseVector", "values", "[D", (.ref bv)), ("com/example/lotwise/lotwise/search/SparseVector", "index", "[I", (.ref bi)), ("com/example/lotwise/lotwise/search/SparseVector", "count", "I", (.int n3))])), (bv, .inl (.double, [(.double w3_0), (.double w3_1), (.double w3_2), (.double w3_3)])), (bi, .inl (.int, [(.int x3_0), (.int x3_1), (.int x3_2), (.int x3_3)])), (a173, .inl (.int, [(.int ea_2), (.int eb_2), (.int ed_2)]))]) ?_ ?_
  · intro J
    refine oW.iload (pc' := 261) K at_259 rfl rfl ?_
    refine oW.if_le (pc' := 280) (pc3 := 264) K at_261 (by decide) (by decide) rfl (fun c261 => ?_) (fun c261 => ?_)
    · simp only [oLt32, oEq32, Int32.reduceToInt] at c261
      exact J () trivial
    · simp only [oLt32, oEq32, Int32.reduceToInt] at c261
      refine oW.aload (pc' := 266) K at_264 rfl rfl rfl ?_
      refine oW.getf (i := 0) (q := 1) (pc' := 269) K (hw _ (List.mem_of_getElem? (i := 23) rfl)) at_266 rfl rfl rfl ?_
      refine oW.iconst (v := (0 : Int32)) (pc' := 270) K at_269 (by decide) rfl ?_
      refine oW.iaload (i := 2) (k := 0) (pc' := 271) K at_270 rfl rfl (by decide) rfl rfl ?_
      refine oW.aload (pc' := 273) K at_271 rfl rfl rfl ?_
      refine oW.iconst (v := (0 : Int32)) (pc' := 274) K at_273 (by decide) rfl ?_
      refine oW.iaload (i := 3) (k := 0) (pc' := 275) K at_274 rfl rfl (by decide) rfl rfl ?_
      refine oW.icmp_eq (pc' := 280) (pc3 := 278) K at_275 (by decide) (by decide) rfl (fun c275 => ?_) (fun q => absurd (oEq32.mpr (J3.2.1 (by omega)).symm) q)
      exact J () trivial
  intro _ _
  refine oW.join (F := fun _ : Unit => True) (pcj := 302) (Lf := fun z => #[.val (.int p0), .val (.int p1), .val (.int p2), .val (.int p3), .val (.int p4), .val (.int p5), .val (.int v2), .val (.int v7), .val (.int v12), .val (.int v17), .val (.int v23), .val (.int v29), .val (.ref a32), .val (.int f1), .val (.int f2), .val (.int f3), .val (.int f1), .val (.int g2), .val (.int g3), .val (.ref a173), .val (.int ec_2)]) (Sf := fun _ => []) (dsf := fun _ => [(a32, .inr ("com/example/lotwise/lotwise/search/SparseVector", [("com/example/lotwise/lotwise/search/SparseVector", "values", "[D", (.ref bv)), ("com/example/lotwise/lotwise/search/SparseVector", "index", "[I", (.ref bi)), ("com/example/lotwise/lotwise/search/SparseVector", "count", "I", (.int n3))])), (bv, .inl (.double, [(.double w3_0), (.double w3_1), (.double w3_2), (.double w3_3)])), (bi, .inl (.int, [(.int x3_0), (.int x3_1), (.int x3_2), (.int x3_3)])), (a173, .inl (.int, [(.int ea_2), (.int eb_2), (.int ed_2)]))]) ?_ ?_
  · intro J
    refine oW.iload (pc' := 282) K at_280 rfl rfl ?_
    refine oW.iconst (v := (1 : Int32)) (pc' := 283) K at_282 (by decide) rfl ?_
    refine oW.icmp_le (pc' := 302) (pc3 := 286) K at_283 (by decide) (by decide) rfl (fun c283 => ?_) (fun c283 => ?_)
    · simp only [oLt32, oEq32, Int32.reduceToInt] at c283
      exact J () trivial
    · simp only [oLt32, oEq32, Int32.reduceToInt] at c283
      refine oW.aload (pc' := 288) K at_286 rfl rfl rfl ?_
      refine oW.getf (i := 0) (q := 1) (pc' := 291) K (hw _ (List.mem_of_getElem? (i := 23) rfl)) at_288 rfl rfl rfl ?_
      refine oW.iconst (v := (1 : Int32)) (pc' := 292) K at_291 (by decide) rfl ?_
      refine oW.iaload (i := 2) (k := 1) (pc' := 293) K at_292 rfl rfl (by decide) rfl rfl ?_
      refine oW.aload (pc' := 295) K at_293 rfl rfl rfl ?_
      refine oW.iconst (v := (1 : Int32)) (pc' := 296) K at_295 (by decide) rfl ?_
      refine oW.iaload (i := 3) (k := 1) (pc' := 297) K at_296 rfl rfl (by decide) rfl rfl ?_
      refine oW.icmp_eq (pc' := 302) (pc3 := 300) K at_297 (by decide) (by decide) rfl (fun c297 => ?_) (fun q => absurd (oEq32.mpr (J3.2.2.1 (by omega)).symm) q)
      exact J () trivial
  intro _ _
  refine oW.join (F := fun _ : Unit => True) (pcj := 324) (Lf := fun z => #[.val (.int p0), .val (.int p1), .val (.int p2), .val (.int p3), .val (.int p4), .val (.int p5), .val (.int v2), .val (.int v7), .val (.int v12), .val (.int v17), .val (.int v23), .val (.int v29), .val (.ref a32), .val (.int f1), .val (.int f2), .val (.int f3), .val (.int f1), .val (.int g2), .val (.int g3), .val (.ref a173), .val (.int ec_2)]) (Sf := fun _ => []) (dsf := fun _ => [(a32, .inr ("com/example/lotwise/lotwise/search/SparseVector", [("com/example/lotwise/lotwise/search/SparseVector", "values", "[D", (.ref bv)), ("com/example/lotwise/lotwise/search/SparseVector", "index", "[I", (.ref bi)), ("com/example/lotwise/lotwise/search/SparseVector", "count", "I", (.int n3))])), (bv, .inl (.double, [(.double w3_0), (.double w3_1), (.double w3_2), (.double w3_3)])), (bi, .inl (.int, [(.int x3_0), (.int x3_1), (.int x3_2), (.int x3_3)])), (a173, .inl (.int, [(.int ea_2), (.int eb_2), (.int ed_2)]))]) ?_ ?_
  · intro J
    refine oW.iload (pc' := 304) K at_302 rfl rfl ?_
    refine oW.iconst (v := (2 : Int32)) (pc' := 305) K at_304 (by decide) rfl ?_
    refine oW.icmp_le (pc' := 324) (pc3 := 308) K at_305 (by decide) (by decide) rfl (fun c305 => ?_) (fun c305 => ?_)
    · simp only [oLt32, oEq32, Int32.reduceToInt] at c305
      exact J () trivial
    · simp only [oLt32, oEq32, Int32.reduceToInt] at c305
      refine oW.aload (pc' := 310) K at_308 rfl rfl rfl ?_
      refine oW.getf (i := 0) (q := 1) (pc' := 313) K (hw _ (List.mem_of_getElem? (i := 23) rfl)) at_310 rfl rfl rfl ?_
      refine oW.iconst (v := (2 : Int32)) (pc' := 314) K at_313 (by decide) rfl ?_
      refine oW.iaload (i := 2) (k := 2) (pc' := 315) K at_314 rfl rfl (by decide) rfl rfl ?_
      refine oW.aload (pc' := 317) K at_315 rfl rfl rfl ?_
      refine oW.iconst (v := (2 : Int32)) (pc' := 318) K at_317 (by decide) rfl ?_
      refine oW.iaload (i := 3) (k := 2) (pc' := 319) K at_318 rfl rfl (by decide) rfl rfl ?_
      refine oW.icmp_eq (pc' := 324) (pc3 := 322) K at_319 (by decide) (by decide) rfl (fun c319 => ?_) (fun q => absurd (oEq32.mpr (J3.2.2.2 (by omega)).symm) q)
      exact J () trivial
  intro _ _
  refine oW.aload (pc' := 326) K at_324 rfl rfl rfl ?_
  refine oW.iconst (v := (0 : Int32)) (pc' := 327) K at_326 (by decide) rfl ?_
  refine oW.iload (pc' := 329) K at_327 rfl rfl ?_
  refine oW.iload (pc' := 331) K at_329 rfl rfl ?_
  refine oW.iload (pc' := 333) K at_331 rfl rfl ?_
  refine oW.iload (pc' := 335) K at_333 rfl rfl ?_
  refine oW.iload (pc' := 337) K at_335 rfl rfl ?_
  refine oW.iload (pc' := 339) K at_337 rfl rfl ?_
  refine oW.callS (argsL := [(.ref a32), (.int (0 : Int32)), (.int v2), (.int v17), (.int v7), (.int v23), (.int v12), (.int v29)]) (S := []) (rm := ({ frames := 0, cells := 0, slots := 0, locals := 0 } : Room)) (W := 0) (cells' := 4) (slots' := 14) (pc' := 342) K (hw _ (List.mem_of_getElem? (i := 25) rfl)) (hw _ (List.mem_of_getElem? (i := 26) rfl)) (hw _ (List.mem_of_getElem? (i := 27) rfl)) (hw _ (List.mem_of_getElem? (i := 28) rfl)) (by decide) (own_ent0 hw a32 bv bi a173 w3_0 w3_1 w3_2 w3_3 (W3_0) (W3_1) (W3_2) (W3_3) hw3_0 hw3_1 hw3_2 hw3_3 x3_0 x3_1 x3_2 x3_3 n3 ea_2 eb_2 ed_2 v2 v17 v7 v23 v12 v29 ⟨b17, b23, b29⟩) (lenOf pd_2 rfl) at_339 rfl rfl (Nat.le_of_eq rfl) (by decide) (by decide) (by decide) (by decide) rfl rfl rfl ?_
  rintro _ _ ⟨r0, E0, rfl, hr0, hE0, rfl⟩
  have vv0 := own_vt ⟨b17, b23, b29⟩ he1_0 he2_0 he3_0 hE0
  refine oW.if_eq (pc' := 412) (pc3 := 345) K at_342 (by decide) (by decide) rfl (fun q => absurd (oEq32.mp q) (by have oTs' := oTs; have := hr0; have := vv0; omega)) (fun c342 => ?_)
  refine oW.aload (pc' := 347) K at_345 rfl rfl rfl ?_
  refine oW.iconst (v := (1 : Int32)) (pc' := 348) K at_347 (by decide) rfl ?_
  refine oW.iload (pc' := 350) K at_348 rfl rfl ?_
  refine oW.iload (pc' := 352) K at_350 rfl rfl ?_
  refine oW.iload (pc' := 354) K at_352 rfl rfl ?_
  refine oW.iload (pc' := 356) K at_354 rfl rfl ?_
  refine oW.iload (pc' := 358) K at_356 rfl rfl ?_
  refine oW.iload (pc' := 360) K at_358 rfl rfl ?_
  refine oW.callS (argsL := [(.ref a32), (.int (1 : Int32)), (.int v2), (.int v17), (.int v7), (.int v23), (.int v12), (.int v29)]) (S := []) (rm := ({ frames := 0, cells := 0, slots := 0, locals := 0 } : Room)) (W := 0) (cells' := 4) (slots' := 14) (pc' := 363) K (hw _ (List.mem_of_getElem? (i := 25) rfl)) (hw _ (List.mem_of_getElem? (i := 26) rfl)) (hw _ (List.mem_of_getElem? (i := 27) rfl)) (hw _ (List.mem_of_getElem? (i := 28) rfl)) (by decide) (own_ent1 hw a32 bv bi a173 w3_0 w3_1 w3_2 w3_3 (W3_0) (W3_1) (W3_2) (W3_3) hw3_0 hw3_1 hw3_2 hw3_3 x3_0 x3_1 x3_2 x3_3 n3 ea_2 eb_2 ed_2 v2 v17 v7 v23 v12 v29 ⟨b17, b23, b29⟩) (lenOf pd_2 rfl) at_360 rfl rfl (Nat.le_of_eq rfl) (by decide) (by decide) (by decide) (by decide) rfl rfl rfl ?_
  rintro _ _ ⟨r1, E1, rfl, hr1, hE1, rfl⟩
  have vv1 := own_vt ⟨b17, b23, b29⟩ he1_1 he2_1 he3_1 hE1
  refine oW.if_eq (pc' := 412) (pc3 := 366) K at_363 (by decide) (by decide) rfl (fun q => absurd (oEq32.mp q) (by have oTs' := oTs; have := hr1; have := vv1; omega)) (fun c363 => ?_)
  refine oW.aload (pc' := 368) K at_366 rfl rfl rfl ?_
  refine oW.iconst (v := (2 : Int32)) (pc' := 369) K at_368 (by decide) rfl ?_
  refine oW.iload (pc' := 371) K at_369 rfl rfl ?_
  refine oW.iload (pc' := 373) K at_371 rfl rfl ?_
  refine oW.iload (pc' := 375) K at_373 rfl rfl ?_
  refine oW.iload (pc' := 377) K at_375 rfl rfl ?_
  refine oW.iload (pc' := 379) K at_377 rfl rfl ?_
  refine oW.iload (pc' := 381) K at_379 rfl rfl ?_
  refine oW.callS (argsL := [(.ref a32), (.int (2 : Int32)), (.int v2), (.int v17), (.int v7), (.int v23), (.int v12), (.int v29)]) (S := []) (rm := ({ frames := 0, cells := 0, slots := 0, locals := 0 } : Room)) (W := 0) (cells' := 4) (slots' := 14) (pc' := 384) K (hw _ (List.mem_of_getElem? (i := 25) rfl)) (hw _ (List.mem_of_getElem? (i := 26) rfl)) (hw _ (List.mem_of_getElem? (i := 27) rfl)) (hw _ (List.mem_of_getElem? (i := 28) rfl)) (by decide) (own_ent2 hw a32 bv bi a173 w3_0 w3_1 w3_2 w3_3 (W3_0) (W3_1) (W3_2) (W3_3) hw3_0 hw3_1 hw3_2 hw3_3 x3_0 x3_1 x3_2 x3_3 n3 ea_2 eb_2 ed_2 v2 v17 v7 v23 v12 v29 ⟨b17, b23, b29⟩) (lenOf pd_2 rfl) at_381 rfl rfl (Nat.le_of_eq rfl) (by decide) (by decide) (by decide) (by decide) rfl rfl rfl ?_
  rintro _ _ ⟨r2, E2, rfl, hr2, hE2, rfl⟩
  have vv2 := own_vt ⟨b17, b23, b29⟩ he1_2 he2_2 he3_2 hE2
  refine oW.if_eq (pc' := 412) (pc3 := 387) K at_384 (by decide) (by decide) rfl (fun q => absurd (oEq32.mp q) (by have oTs' := oTs; have := hr2; have := vv2; omega)) (fun c384 => ?_)
  refine oW.aload (pc' := 389) K at_387 rfl rfl rfl ?_
  refine oW.iconst (v := (3 : Int32)) (pc' := 390) K at_389 (by decide) rfl ?_
  refine oW.iload (pc' := 392) K at_390 rfl rfl ?_
  refine oW.iload (pc' := 394) K at_392 rfl rfl ?_
  refine oW.iload (pc' := 396) K at_394 rfl rfl ?_
  refine oW.iload (pc' := 398) K at_396 rfl rfl ?_
  refine oW.iload (pc' := 400) K at_398 rfl rfl ?_
  refine oW.iload (pc' := 402) K at_400 rfl rfl ?_
  refine oW.callS (argsL := [(.ref a32), (.int (3 : Int32)), (.int v2), (.int v17), (.int v7), (.int v23), (.int v12), (.int v29)]) (S := []) (rm := ({ frames := 0, cells := 0, slots := 0, locals := 0 } : Room)) (W := 0) (cells' := 4) (slots' := 14) (pc' := 405) K (hw _ (List.mem_of_getElem? (i := 25) rfl)) (hw _ (List.mem_of_getElem? (i := 26) rfl)) (hw _ (List.mem_of_getElem? (i := 27) rfl)) (hw _ (List.mem_of_getElem? (i := 28) rfl)) (by decide) (own_ent3 hw a32 bv bi a173 w3_0 w3_1 w3_2 w3_3 (W3_0) (W3_1) (W3_2) (W3_3) hw3_0 hw3_1 hw3_2 hw3_3 x3_0 x3_1 x3_2 x3_3 n3 ea_2 eb_2 ed_2 v2 v17 v7 v23 v12 v29 ⟨b17, b23, b29⟩) (lenOf pd_2 rfl) at_402 rfl rfl (Nat.le_of_eq rfl) (by decide) (by decide) (by decide) (by decide) rfl rfl rfl ?_
  rintro _ _ ⟨r3, E3, rfl, hr3, hE3, rfl⟩
  have vv3 := own_vt ⟨b17, b23, b29⟩ he1_3 he2_3 he3_3 hE3
  refine oW.if_eq (pc' := 412) (pc3 := 408) K at_405 (by decide) (by decide) rfl (fun q => absurd (oEq32.mp q) (by have oTs' := oTs; have := hr3; have := vv3; omega)) (fun c405 => ?_)
  refine oW.iconst (v := (1 : Int32)) (pc' := 409) K at_408 (by decide) rfl ?_
  refine oW.goto (pc' := 413) K at_409 (by decide) (by decide) ?_
  exact oW.retB K rfl at_413 (by decide) (by decide) ⟨_, rfl, rfl⟩
set_option maxRecDepth 65536 in
set_option maxHeartbeats 40000000 in
theorem comes_1 {Post : Tables → Env → Array Value → State → Outcome → State → Prop} (hpost : ∀ tb e args s v u, (limb_1_1.after args s (.returned v) u = true ∧ limb_1_2.after args s (.returned v) u = true ∧ True) → FrameEnd s (.returned v) u (Jvm.fieldLocs frame_1_writes args s ++ Jvm.arrayLocs frame_1_arrays args s ++ Jvm.staticLocs frame_1_statics s) 16 128 → Post tb e args s (.returned v) u) :
    ArmFor flags0 classFile x code maxLocals ret World_1 tables_1 room_1 Calls_1 rest_1 Pre_1 Post := by
  intro l hfl _ _ p e ha hc hk s m args below hf hA hF happ hP
  obtain ⟨hcalls, hrest, hpre⟩ := hP
  obtain ⟨-, -, -, hnamed, -, -, -, hat⟩ := (Spec.applies_iff hf).mp happ
  obtain ⟨hg, hn⟩ := and_e (Cond.before_iff.mp (show (Jvm.Cond.and given_1 narrow_1).before args s = true from hpre))
  obtain ⟨hcount, g0⟩ := and_e hg
  obtain ⟨k0, g1⟩ := and_e g0
  obtain ⟨k1, g2⟩ := and_e g1
  obtain ⟨k2, g3⟩ := and_e g2
  obtain ⟨k3, g4⟩ := and_e g3
  obtain ⟨k4, g5⟩ := and_e g4
  obtain ⟨w0, w1, w2, w3, w4, w5, rfl⟩ : ∃ w0 w1 w2 w3 w4 w5 : Value, args = #[w0, w1, w2, w3, w4, w5] := by
    have hs : args.size = 6 := by simpa [Cond.value, given_1] using hcount
    obtain ⟨L⟩ := args
    match L, hs with
    | [w0, w1, w2, w3, w4, w5], _ => exact ⟨w0, w1, w2, w3, w4, w5, rfl⟩
  have hw := fun d (hd : d ∈ tables_1) => atoms_spec (ws := Jvm.Cond.code x code maxLocals ret :: tables_1) hat d (List.mem_cons_of_mem _ hd)
  obtain ⟨i0, ei0⟩ := is_v k0
  obtain rfl : w0 = (.int i0) := Option.some.inj ei0
  obtain ⟨i1, ei1⟩ := is_v k1
  obtain rfl : w1 = (.int i1) := Option.some.inj ei1
  obtain ⟨i2, ei2⟩ := is_v k2
  obtain rfl : w2 = (.int i2) := Option.some.inj ei2
  obtain ⟨i3, ei3⟩ := is_v k3
  obtain rfl : w3 = (.int i3) := Option.some.inj ei3
  obtain ⟨i4, ei4⟩ := is_v k4
  obtain rfl : w4 = (.int i4) := Option.some.inj ei4
  obtain ⟨i5, ei5⟩ := is_v g5
  obtain rfl : w5 = (.int i5) := Option.some.inj ei5
  obtain ⟨n, o, h1, h2, h3, _, L, rfl, ⟨N, _, ⟨_, rfl, rfl⟩, _⟩, hq⟩ := (own_law (l := l) (h0 := s.heap) hw i0 i1 i2 i3 i4 i5) s.heap (oMem.start s s.heap) p e ha hc hk s m _ below hf ((Spec.applies_iff_loose hf).mp happ).1 ⟨rfl, State.Warmed39.refl s, rfl⟩ trivial
  refine ⟨n, _, h1, h2, h3, hpost _ _ _ _ _ _ ⟨Cond.after_iff.mpr rfl, Cond.after_iff.mpr (eq_i res_at (Term.int_eval (1)) rfl), trivial⟩ ⟨hq.1, hq.2.1, (hq.2.2.sift fun y hy => Or.inr (N y hy)).mono (by decide) (by decide)⟩⟩
theorem main_1_1 : Claimed_1_1 := comes_1 fun _ _ _ _ _ _ h hF => ⟨h.1, hF⟩
theorem main_1_2 : Claimed_1_2 := comes_1 fun _ _ _ _ _ _ h hF => ⟨h.2.1, hF⟩
end Jvm.Pilot.@@N@@
namespace Jvm.Pilot.@@N@@
open Jvm Jvm.ClassFile Sem Op Lib Jvm.Free Jvm.Stand Jvm.Pilot.@@N@@.Jvm.D
/-! MADE BY PROGRAM (witnessworld.py) out of the Statement's table words and the real class files: 11 classes; the members and pool entries that the words name. The judged class is class 1, her method 1. -/
namespace start1
open Jvm.ClassFile
def u (s : String) : CpInfo := .utf8 (stringToUtf16 s)
/-- a pool by its gaps: so many unusable entries, then the entry; so many at the end -/
def gap : Nat → List CpInfo → List CpInfo
  | 0, r => r
  | n + 1, r => .unusable :: gap n r
def poolList (es : List (Nat × CpInfo)) (last : Nat) : List CpInfo := es.foldr (fun e r => gap e.1 (e.2 :: r)) (gap last [])
def pool (es : List (Nat × CpInfo)) (last : Nat) : Array CpInfo := ⟨poolList es last⟩
def fileOf (pool : Array CpInfo) (this : Nat) (attrs : Array Attribute := #[]) (ms : Array MethodInfo := #[]) (fl : Nat := 33) (sup : Nat := 0) (ifs : Array Nat := #[]) (fds : Array FieldInfo := #[]) : ClassFile where
  minorVersion := 0
  majorVersion := 65
  constantPool := pool
  accessFlags := fl
  thisClass := this
  superClass := sup
  interfaces := ifs
  fields := fds
  methods := ms
  attributes := attrs
def plain (name : String) (sup : Option ClassId) : Class where
  name := name
  kind := .ordinary
  loader := none
  accessFlags := 33
  super := sup
  interfaces := #[]
  cf := none
  fields := #[]
  methods := #[]
  instanceTypes := #[]
  staticTypes := #[]
  resolved := #[]
  callSites := []
  init := .initialized
  statics := none
  mirror := none

def pool0 : Array CpInfo := pool [(5, u "<init>"), (0, u "()V"), (1, .class_ 10), (1, u "java/lang/Object")] 113

def k0c0 : Code := { maxStack := 0, maxLocals := 1, code := object_method_1_code, exceptionTable := #[], attributes := #[] }
def k0m0 : Method := { name := "<init>", desc := "()V", sig := { parameters := [], returnType := none }, accessFlags := 1, code := some k0c0 }
/-- java/lang/Object -/
def k0 : Class := { plain "java/lang/Object" none with
  accessFlags := 33
  interfaces := #[]
  cf := some (fileOf pool0 8 #[] #[{ accessFlags := 1, nameIndex := 5, descriptorIndex := 6, attributes := #[] }] 33 0 #[] #[])
  fields := #[]
  methods := #[k0m0]
  instanceTypes := #[]
  staticTypes := #[]
  resolved := Array.replicate 124 none
  statics := none }

def pool1 : Array CpInfo := pool [(2, .class_ 4), (1, u "java/lang/Object"), (0, u "<init>"), (0, u "()V"), (0, .class_ 8), (0, u "com/example/lotwise/lotwise/search/SparseVector"), (0, .methodref 7 10), (0, .nameAndType 5 11), (0, u "(I)V"), (0, .methodref 7 13), (0, .nameAndType 14 15), (0, u "add"), (0, u "(ID)V"), (0, .fieldref 7 17), (0, .nameAndType 18 19), (0, u "values"), (0, u "[D"), (0, .fieldref 7 21), (0, .nameAndType 22 23), (0, u "index"), (0, u "[I"), (0, .fieldref 7 25), (0, .nameAndType 26 27), (0, u "count"), (0, u "I"), (0, .methodref 29 30), (0, .class_ 31), (0, .nameAndType 32 33), (0, u "com/example/lotwise/lotwise/search/SparseVectorAddPinLaw"), (0, u "entry"), (0, u "(Lcom/example/lotwise/lotwise/search/SparseVector;IIIIIII)Z"), (0, .double 118622047889322841), (3, u "law"), (0, u "(IIIIII)Z")] 4

def k1m0 : Method := { name := "<init>", desc := "()V", sig := { parameters := [], returnType := none }, accessFlags := 1, code := none }
def k1c1 : Code := { maxStack := 8, maxLocals := 21, code := code, exceptionTable := #[], attributes := #[] }
def k1m1 : Method := { name := "law", desc := "(IIIIII)Z", sig := { parameters := [.int, .int, .int, .int, .int, .int], returnType := some .boolean }, accessFlags := 9, code := some k1c1 }
def k1c2 : Code := { maxStack := 4, maxLocals := 12, code := method_3_code, exceptionTable := #[], attributes := #[] }
def k1m2 : Method := { name := "entry", desc := "(Lcom/example/lotwise/lotwise/search/SparseVector;IIIIIII)Z", sig := { parameters := [(.object "com/example/lotwise/lotwise/search/SparseVector"), .int, .int, .int, .int, .int, .int, .int], returnType := some .boolean }, accessFlags := 10, code := some k1c2 }
/-- com/example/lotwise/lotwise/search/SparseVectorAddPinLaw -/
def k1 : Class := { plain "com/example/lotwise/lotwise/search/SparseVectorAddPinLaw" (some 0) with
  accessFlags := 49
  interfaces := #[]
  cf := some (fileOf pool1 29 #[] #[{ accessFlags := 1, nameIndex := 5, descriptorIndex := 6, attributes := #[] }, { accessFlags := 9, nameIndex := 38, descriptorIndex := 39, attributes := #[] }, { accessFlags := 10, nameIndex := 32, descriptorIndex := 33, attributes := #[] }] 49 2 #[] #[])
  fields := #[]
  methods := #[k1m0, k1m1, k1m2]
  instanceTypes := #[]
  staticTypes := #[]
  resolved := Array.replicate 44 none
  statics := none }

def pool2 : Array CpInfo := pool [(1, .methodref 2 3), (0, .class_ 4), (0, .nameAndType 5 6), (0, u "java/lang/Object"), (0, u "<init>"), (0, u "()V"), (0, .fieldref 8 9), (0, .class_ 10), (0, .nameAndType 11 12), (0, u "com/example/lotwise/lotwise/search/SparseVector"), (0, u "values"), (0, u "[D"), (0, .fieldref 8 14), (0, .nameAndType 15 16), (0, u "index"), (0, u "[I"), (9, .fieldref 8 27), (0, .nameAndType 28 29), (0, u "count"), (0, u "I"), (0, .double 118622047889322841), (1, u "TINY"), (0, u "D"), (1, u "(I)V"), (4, u "add"), (0, u "(ID)V")] 6

def k2c0 : Code := { maxStack := 2, maxLocals := 2, code := prog_45_method_1_code, exceptionTable := #[], attributes := #[] }
def k2m0 : Method := { name := "<init>", desc := "(I)V", sig := { parameters := [.int], returnType := none }, accessFlags := 0, code := some k2c0 }
def k2c1 : Code := { maxStack := 6, maxLocals := 8, code := prog_45_method_3_code, exceptionTable := #[], attributes := #[] }
def k2m1 : Method := { name := "add", desc := "(ID)V", sig := { parameters := [.int, .double], returnType := none }, accessFlags := 0, code := some k2c1 }
/-- com/example/lotwise/lotwise/search/SparseVector -/
def k2 : Class := { plain "com/example/lotwise/lotwise/search/SparseVector" (some 0) with
  accessFlags := 48
  interfaces := #[]
  cf := some (fileOf pool2 8 #[] #[{ accessFlags := 0, nameIndex := 5, descriptorIndex := 35, attributes := #[] }, { accessFlags := 0, nameIndex := 40, descriptorIndex := 41, attributes := #[] }] 48 2 #[] #[{ accessFlags := 24, nameIndex := 32, descriptorIndex := 33, attributes := #[] }, { accessFlags := 0, nameIndex := 11, descriptorIndex := 12, attributes := #[] }, { accessFlags := 0, nameIndex := 15, descriptorIndex := 16, attributes := #[] }, { accessFlags := 0, nameIndex := 28, descriptorIndex := 29, attributes := #[] }])
  fields := #[{ name := "TINY", type := .double, accessFlags := 24, slot := 0, constantValue := 0 }, { name := "values", type := (.array .double), accessFlags := 0, slot := 0, constantValue := 0 }, { name := "index", type := (.array .int), accessFlags := 0, slot := 1, constantValue := 0 }, { name := "count", type := .int, accessFlags := 0, slot := 2, constantValue := 0 }]
  methods := #[k2m0, k2m1]
  instanceTypes := #[(.array .double), (.array .int), .int]
  staticTypes := #[.double]
  resolved := Array.replicate 48 none
  statics := none }

def pool3 : Array CpInfo := pool [(1, u "java/lang/Cloneable"), (0, .class_ 1), (0, u "java/lang/Object"), (0, .class_ 3)] 3

/-- java/lang/Cloneable -/
def k3 : Class := { plain "java/lang/Cloneable" (some 0) with
  accessFlags := 1537
  interfaces := #[]
  cf := some (fileOf pool3 2 #[] #[] 1537 4 #[] #[])
  fields := #[]
  methods := #[]
  instanceTypes := #[]
  staticTypes := #[]
  resolved := Array.replicate 8 none
  statics := none }

def pool4 : Array CpInfo := pool [(1, u "java/io/Serializable"), (0, .class_ 1), (0, u "java/lang/Object"), (0, .class_ 3)] 3

/-- java/io/Serializable -/
def k4 : Class := { plain "java/io/Serializable" (some 0) with
  accessFlags := 1537
  interfaces := #[]
  cf := some (fileOf pool4 2 #[] #[] 1537 4 #[] #[])
  fields := #[]
  methods := #[]
  instanceTypes := #[]
  staticTypes := #[]
  resolved := Array.replicate 8 none
  statics := none }

/-- the primitive byte -/
def k5 : Class := { plain "byte" none with kind := .primitive 'B', accessFlags := 0x411 }
/-- [B -/
def k6 : Class := { plain "[B" (some 0) with kind := .array 5 .byte, interfaces := #[3, 4], accessFlags := 1041 }

/-- the primitive double -/
def k7 : Class := { plain "double" none with kind := .primitive 'D', accessFlags := 0x411 }
/-- [D -/
def k8 : Class := { plain "[D" (some 0) with kind := .array 7 .double, interfaces := #[3, 4], accessFlags := 1041 }

/-- the primitive int -/
def k9 : Class := { plain "int" none with kind := .primitive 'I', accessFlags := 0x411 }
/-- [I -/
def k10 : Class := { plain "[I" (some 0) with kind := .array 9 .int, interfaces := #[3, 4], accessFlags := 1041 }

def heap : Heap := #[]
def classes : Array Class := #[k0, k1, k2, k3, k4, k5, k6, k7, k8, k9, k10]
def interned : List (Array UInt16 × Addr) := []
def slotsUsed : Nat := 0
def theMethod : MethodId := ⟨1, 1⟩
def args0 : Array Value := #[.int 3, .int 4, .int 5, .int 6, .int 7, .int 8]
def aboutOver (below : List Frame) : State where
  vm := { classes := classes, interned := interned.toArray }
  heap := heap
  slotsUsed := slotsUsed
  threads := #[{ frames := .invoking theMethod args0 :: below }]
def below0 : List Frame := [.native { method := ⟨0, 0⟩, args := #[] }]
def about1 : State := aboutOver below0
def p0 : Program := .bare "" "" ""
def e0 : Env := launch0.env 0 0 0
theorem w_frames : about1.frames = Frame.invoking theMethod args0 :: below0 := rfl
set_option maxRecDepth 65536 in
theorem w_args : argsFit about1.vm theMethod args0 = true := by decide +kernel
set_option maxRecDepth 65536 in
theorem w_heap : heapFits about1 = true := by decide +kernel
set_option maxRecDepth 65536 in
theorem w_runnable : about1.curStatus? = some .runnable := by decide +kernel
set_option maxRecDepth 65536 in
theorem w_alone : about1.alone = true := by decide +kernel
set_option maxRecDepth 65536 in
theorem w_named : about1.methodNamed? x = some theMethod := by decide +kernel
set_option maxRecDepth 65536 in
theorem w_hears : about1.hears theMethod below0 = true := by decide +kernel
set_option maxRecDepth 65536 in
theorem w_ripe : about1.ripe theMethod args0 below0 = true := by decide +kernel
theorem w_running : about1.status = .running := rfl
set_option maxRecDepth 65536 in
theorem w_room : about1.hasRoom e0.platform room_1 = true :=
  launch0.hasRoom_least _ room_1 (by decide +kernel) (by decide +kernel) (by decide +kernel) (by decide +kernel) (by decide +kernel) (by decide +kernel)
theorem allAtoms_all (ts : List Jvm.Cond) (a : Array Jvm.Value) (st : Jvm.State) : (allAtoms ts).before a st = ts.all (fun c => c.before a st) := by
  induction ts with
  | nil => rfl
  | cons c t ih =>
    show (Jvm.Cond.and c (allAtoms t)).before a st = _
    rw [Jvm.Cond.before_and, ih, List.all_cons]
def words1 : List Jvm.Cond := Jvm.Cond.code x code maxLocals ret :: tables_1
/-- a 'code' word, met by the world's own term for the bytes: nothing is compared byte by byte -/
theorem code_word {y : MethodName} {bytes : ByteArray} {mx : Nat} {rt : Option FieldType} {a : Array Value} {s : State} {m : MethodId} {meth : Method} {c : Code} (h1 : s.methodNamed? y = some m) (h2 : s.vm.method? m = some meth) (h3 : meth.code = some c) (h4 : c.code = bytes)
    (h5 : (c.maxLocals == mx && c.exceptionTable.isEmpty && decide (c.maxStack ≤ mostOperands) && decide (meth.sig.returnType = rt) && !meth.locks && decide (parseMethodDescriptor y.desc = some meth.sig)) = true) : (Jvm.Cond.code y bytes mx rt).before a s = true := by
  simp only [Bool.and_eq_true, beq_iff_eq, Bool.not_eq_true', decide_eq_true_eq] at h5
  obtain ⟨⟨⟨⟨⟨g1, g2⟩, g3⟩, g4⟩, g5⟩, g6⟩ := h5
  simp [Cond.before, Cond.holds, Cond.value, h1, h2, h3, h4, g1, g2, g3, g4, g5, g6]
def isCode : Jvm.Cond → Bool
  | .code _ _ _ _ => true
  | _ => false
theorem all_split {L : List Jvm.Cond} {P : Jvm.Cond → Bool} (h1 : L.all (fun c => isCode c || P c) = true) (h2 : ∀ c ∈ L.filter isCode, P c = true) : L.all P = true := by
  refine List.all_eq_true.mpr fun c hc => ?_
  have h := List.all_eq_true.mp h1 c hc
  rcases Bool.eq_false_or_eq_true (isCode c) with hi | hi
  · exact h2 c (List.mem_filter.mpr ⟨hc, hi⟩)
  · simpa [hi] using h
set_option maxRecDepth 65536 in
theorem w_c0 : (Jvm.Cond.code x code maxLocals ret).before args0 about1 = true := code_word (m := ⟨1, 1⟩) (meth := k1m1) (c := k1c1) (by decide +kernel) rfl rfl rfl (by decide +kernel)
set_option maxRecDepth 65536 in
theorem w_c1 : (Jvm.Cond.code ({ cls := "com/example/lotwise/lotwise/search/SparseVector", name := "<init>", desc := "(I)V" } : Jvm.MethodName) prog_45_method_1_code (2 : Nat) (Option.none : Option Jvm.ClassFile.FieldType)).before args0 about1 = true := code_word (m := ⟨2, 0⟩) (meth := k2m0) (c := k2c0) (by decide +kernel) rfl rfl rfl (by decide +kernel)
set_option maxRecDepth 65536 in
theorem w_c2 : (Jvm.Cond.code ({ cls := "java/lang/Object", name := "<init>", desc := "()V" } : Jvm.MethodName) object_method_1_code (1 : Nat) (Option.none : Option Jvm.ClassFile.FieldType)).before args0 about1 = true := code_word (m := ⟨0, 0⟩) (meth := k0m0) (c := k0c0) (by decide +kernel) rfl rfl rfl (by decide +kernel)
set_option maxRecDepth 65536 in
theorem w_c3 : (Jvm.Cond.code ({ cls := "com/example/lotwise/lotwise/search/SparseVector", name := "add", desc := "(ID)V" } : Jvm.MethodName) prog_45_method_3_code (8 : Nat) (Option.none : Option Jvm.ClassFile.FieldType)).before args0 about1 = true := code_word (m := ⟨2, 1⟩) (meth := k2m1) (c := k2c1) (by decide +kernel) rfl rfl rfl (by decide +kernel)
set_option maxRecDepth 65536 in
theorem w_c4 : (Jvm.Cond.code ({ cls := "com/example/lotwise/lotwise/search/SparseVectorAddPinLaw", name := "entry", desc := "(Lcom/example/lotwise/lotwise/search/SparseVector;IIIIIII)Z" } : Jvm.MethodName) method_3_code (12 : Nat) (Option.some Jvm.ClassFile.FieldType.boolean)).before args0 about1 = true := code_word (m := ⟨1, 2⟩) (meth := k1m2) (c := k1c2) (by decide +kernel) rfl rfl rfl (by decide +kernel)
def codes1 : List Jvm.Cond := [Jvm.Cond.code x code maxLocals ret, Jvm.Cond.code ({ cls := "com/example/lotwise/lotwise/search/SparseVector", name := "<init>", desc := "(I)V" } : Jvm.MethodName) prog_45_method_1_code (2 : Nat) (Option.none : Option Jvm.ClassFile.FieldType), Jvm.Cond.code ({ cls := "java/lang/Object", name := "<init>", desc := "()V" } : Jvm.MethodName) object_method_1_code (1 : Nat) (Option.none : Option Jvm.ClassFile.FieldType), Jvm.Cond.code ({ cls := "com/example/lotwise/lotwise/search/SparseVector", name := "add", desc := "(ID)V" } : Jvm.MethodName) prog_45_method_3_code (8 : Nat) (Option.none : Option Jvm.ClassFile.FieldType), Jvm.Cond.code ({ cls := "com/example/lotwise/lotwise/search/SparseVectorAddPinLaw", name := "entry", desc := "(Lcom/example/lotwise/lotwise/search/SparseVector;IIIIIII)Z" } : Jvm.MethodName) method_3_code (12 : Nat) (Option.some Jvm.ClassFile.FieldType.boolean)]
set_option maxRecDepth 65536 in
theorem codes_eq : words1.filter isCode = codes1 := rfl
theorem w_codes : ∀ c ∈ words1.filter isCode, c.before args0 about1 = true := by
  rw [codes_eq]
  intro c hc
  simp only [codes1, List.mem_cons, List.not_mem_nil, or_false] at hc
  rcases hc with rfl | rfl | rfl | rfl | rfl
  · exact w_c0
  · exact w_c1
  · exact w_c2
  · exact w_c3
  · exact w_c4
set_option maxRecDepth 65536 in
theorem w_t1 : (words1.take 24).all (fun c => isCode c || c.before args0 about1) = true := by decide +kernel
set_option maxRecDepth 65536 in
theorem w_t2 : (words1.drop 24).all (fun c => isCode c || c.before args0 about1) = true := by decide +kernel
theorem w_tables : (allAtoms (Jvm.Cond.code x code maxLocals ret :: tables_1)).before args0 about1 = true := by
  rw [allAtoms_all]
  show words1.all (fun c => c.before args0 about1) = true
  refine all_split ?_ w_codes
  rw [← List.take_append_drop 24 words1, List.all_append, w_t1, w_t2]
  rfl
set_option maxRecDepth 65536 in
theorem w_case : (Jvm.Cond.and given_1 narrow_1).before args0 about1 = true := by decide +kernel
theorem w_applies : (headSpec (Jvm.Cond.code x code maxLocals ret :: tables_1) room_1).applies x e0.platform about1 = true :=
  (Spec.applies_iff w_frames).mpr ⟨w_running, w_runnable, w_alone, w_named, w_hears, w_ripe, w_room, w_tables⟩
theorem atStart : AtStart classFile x code maxLocals ret World_1 tables_1 room_1 Calls_1 rest_1 Pre_1 launch0 p0 e0 about1 theMethod args0 below0 :=
  ⟨lists_1, trivial, launch0.admits_env _ _ _, launch0.least_env, fairChoices_fair.cas, fairChoices_fair.clock, w_frames, w_args, w_heap, w_applies, trivial, trivial, w_case⟩
end start1
theorem witness_1 : WitnessClaimed_1 := ⟨start1.p0, start1.e0, start1.about1, start1.theMethod, start1.args0, start1.below0, start1.atStart⟩
end Jvm.Pilot.@@N@@
