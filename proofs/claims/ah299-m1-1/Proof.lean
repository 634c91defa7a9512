import JvmDerived
import JvmDerived.Pilot.@@N@@Statement
import JvmDerived.Pilot.@@N@@Code
set_option linter.unusedVariables false
set_option linter.unusedSimpArgs false
namespace Jvm.Pilot.@@N@@
open Jvm Jvm.ClassFile Sem Op Lib Jvm.Free Jvm.Stand Jvm.LawKit Jvm.RoadKit Bundle Jvm.Pilot.@@N@@.Jvm.D
/-! OWN PRELUDE. What the walk knows of the objects that it made: a list of (address, what stands there): an array with its components, or an object with its fields. -/
abbrev oDsc : Type := Sum (FieldType × List Value) (String × List (String × String × String × Value))
abbrev oDs : Type := List (Addr × oDsc)
def oAt (Z : State) (h : Heap) (a : Addr) (d : oDsc) : Prop := match d with
  | .inl (ty, vs) => ∃ c : Cell, Arr Z h a c ty ∧ c.slots = vs.toArray
  | .inr (C, fs) => Exa Z h a C ∧ ∀ f ∈ fs, Fld Z h a f.1 f.2.1 f.2.2.1 f.2.2.2
def oMem (Z : State) (h0 h : Heap) (ds : oDs) : Prop :=
  Ext h0 h ∧ (∀ (i j : Nat) (x y : Addr × oDsc), i < j → ds[i]? = some x → ds[j]? = some y → x.1 < y.1) ∧ ∀ (i : Nat) (x : Addr × oDsc), ds[i]? = some x → h0.size ≤ x.1 ∧ oAt Z h x.1 x.2
theorem oExt_refl (h : Heap) : Ext h h := ⟨Nat.le_refl _, fun _ _ q => q⟩
theorem oMem.start (Z : State) (h : Heap) : oMem Z h h [] := ⟨oExt_refl h, fun _ _ _ _ _ q => by simp at q, fun _ _ q => by simp at q⟩
theorem oAt.lt {Z : State} {h : Heap} {a : Addr} {d : oDsc} (A : oAt Z h a d) : a < h.size := by
  rcases d with ⟨ty, vs⟩ | ⟨C, fs⟩
  · obtain ⟨c, A, -⟩ := A; exact A.lt
  · exact A.1.lt
theorem oAt.ext {Z : State} {h h' : Heap} {a : Addr} {d : oDsc} (A : oAt Z h a d) (E : Ext h h') : oAt Z h' a d := by
  rcases d with ⟨ty, vs⟩ | ⟨C, fs⟩
  · obtain ⟨c, A, q⟩ := A; exact ⟨c, A.ext E, q⟩
  · exact ⟨A.1.ext E, fun f hf => (A.2 f hf).ext E⟩
theorem oAt.other {Z : State} {h h' : Heap} {a b : Addr} {sl : Nat} {v : Value} {d : oDsc} (A : oAt Z h b d) (W : Wr h h' a sl v) (q : b ≠ a) : oAt Z h' b d := by
  rcases d with ⟨ty, vs⟩ | ⟨C, fs⟩
  · obtain ⟨c, A, r⟩ := A; exact ⟨c, A.other W q, r⟩
  · exact ⟨A.1.wr W, fun f hf => (A.2 f hf).other W (Or.inl q)⟩
theorem oMem.push {Z : State} {h0 h h' : Heap} {ds : oDs} {d : oDsc} (M : oMem Z h0 h ds) (E : Ext h h') (A : oAt Z h' h.size d) : oMem Z h0 h' (ds ++ [(h.size, d)]) := by
  obtain ⟨M1, M2, M3⟩ := M
  refine ⟨⟨Nat.le_trans M1.1 E.1, fun a c q => E.2 a c (M1.2 a c q)⟩, fun i j x y hij hi hj => ?_, fun i x hi => ?_⟩
  · rw [List.getElem?_append] at hi hj
    split at hj
    · rw [if_pos (by omega)] at hi; exact M2 i j x y hij hi hj
    · rename_i nj
      have hjl : j - ds.length = 0 := by
        rcases Nat.eq_zero_or_pos (j - ds.length) with q | q
        · exact q
        · rw [List.getElem?_eq_none (by simp; omega)] at hj; cases hj
      rw [hjl] at hj; cases hj
      rw [if_pos (by omega)] at hi
      exact (M3 i x hi).2.lt
  · rw [List.getElem?_append] at hi
    split at hi
    · exact ⟨(M3 i x hi).1, (M3 i x hi).2.ext E⟩
    · rename_i ni
      have hil : i - ds.length = 0 := by
        rcases Nat.eq_zero_or_pos (i - ds.length) with q | q
        · exact q
        · rw [List.getElem?_eq_none (by simp; omega)] at hi; cases hi
      rw [hil] at hi; cases hi
      exact ⟨M1.1, A⟩
theorem oMem.put {Z : State} {h0 h h' : Heap} {ds : oDs} {i : Nat} {a : Addr} {d d' : oDsc} {sl : Nat} {v : Value} (M : oMem Z h0 h ds) (hi : ds[i]? = some (a, d)) (W : Wr h h' a sl v) (A : oAt Z h' a d') : oMem Z h0 h' (ds.set i (a, d')) := by
  obtain ⟨M1, M2, M3⟩ := M
  have ha := (M3 i _ hi).1
  have hlt : i < ds.length := (List.getElem?_eq_some_iff.mp hi).1
  have fst : ∀ (j : Nat) (x : Addr × oDsc), (ds.set i (a, d'))[j]? = some x → ∃ y : Addr × oDsc, ds[j]? = some y ∧ y.1 = x.1 := fun j x hx => by
    rw [List.getElem?_set] at hx
    split at hx
    · rename_i e; subst e; cases hx; exact ⟨_, hi, rfl⟩
    · exact ⟨x, hx, rfl⟩
  refine ⟨⟨Nat.le_trans M1.1 (Nat.le_of_eq W.size.symm), fun x c q => ?_⟩, fun j k x y hjk hj hk => ?_, fun j x hx => ?_⟩
  · obtain ⟨c', q1, -, -, -, q5, -⟩ := wr_at W (M1.2 x c q)
    have : x ≠ a := Nat.ne_of_lt (Nat.lt_of_lt_of_le (Array.getElem?_eq_some_iff.mp q).1 ha)
    rw [← q5 this]; exact q1
  · obtain ⟨x', hx', ex⟩ := fst j x hj
    obtain ⟨y', hy', ey⟩ := fst k y hk
    rw [← ex, ← ey]; exact M2 j k x' y' hjk hx' hy'
  · rw [List.getElem?_set] at hx
    split at hx
    · rename_i e; subst e; cases hx; exact ⟨ha, A⟩
    · rename_i e
      refine ⟨(M3 j x hx).1, (M3 j x hx).2.other W fun q => ?_⟩
      rcases Nat.lt_or_gt_of_ne e with r | r
      · have := M2 i j _ _ r hi hx; rw [q] at this; exact Nat.lt_irrefl _ this
      · have := M2 j i _ _ r hx hi; rw [q] at this; exact Nat.lt_irrefl _ this
/-- the fields' places are unlike -/
def oApart (Z : State) (fs : List (String × String × String × Value)) : Prop :=
  ∀ (i j : Nat) (f g : String × String × String × Value), i ≠ j → fs[i]? = some f → fs[j]? = some g → Jvm.RoadKit.slotOf Z f.1 f.2.1 f.2.2.1 ≠ Jvm.RoadKit.slotOf Z g.1 g.2.1 g.2.2.1
theorem oApart.of {Z : State} {a0 : Array Value} {C : String} {fs : List (String × String × String × Value)} (hL : ∀ f ∈ fs, Laid Z a0 C f.1 f.2.1 f.2.2.1 ∧ ∃ t, parseFieldDescriptor f.2.2.1 = some t) (hn : (fs.map fun f => f.2.1).Nodup) : oApart Z fs := fun i j f g hij hi hj => by
  obtain ⟨L1, t1, p1⟩ := hL f (List.mem_of_getElem? hi)
  obtain ⟨L2, t2, p2⟩ := hL g (List.mem_of_getElem? hj)
  refine slot_ne L1 L2 (fun q => hij ?_) p1 p2
  have e1 : (fs.map fun f => f.2.1)[i]? = some f.2.1 := by rw [List.getElem?_map, hi]; rfl
  have e2 : (fs.map fun f => f.2.1)[j]? = some g.2.1 := by rw [List.getElem?_map, hj]; rfl
  rw [q] at e1
  have l1 := (List.getElem?_eq_some_iff.mp e1).1
  exact (List.getElem?_inj l1 hn).mp (e1.trans e2.symm)
/-- what a walk's texts share: the machine, the tables, the body's bytes, its class, its result's type, its name -/
def oK (p : Program) (s : State) (m : MethodId) (meth : Method) (c : Code) (Z : State) (own : String) (by0 : ByteArray) (ml : Nat) (ret : Option FieldType) (nm : String) : Prop :=
  (p.tables.exec = Jvm.exec ∧ Z.Warmed39 s.vm ∧ c.code = by0 ∧ c.maxLocals = ml) ∧ s.vm.findClass own = some m.cls ∧ meth.sig.returnType = ret ∧ meth.locks = false ∧ meth.name = nm
/-- the walk stands at T, knows ds of what it made, and has booked cells and slots -/
def oIn (p : Program) (l : Launch) (e : Env) (R : Room) (s : State) (m : MethodId) (args : Array Value) (below : List Frame) (meth : Method) (c : Code) (Z : State) (h0 : Heap) (T : State) (ds : oDs) (cells slots : Nat) : Prop :=
  ∃ locs, Stand p l e R s m args below meth c T locs cells slots ∧ Fr h0.size locs ∧ oMem Z h0 T.heap ds
/-- the run from T with the frame g returns, and P holds of what it returns and of what it leaves -/
def oEnds (p : Program) (e : Env) (R : Room) (s : State) (below : List Frame) (Z : State) (h0 : Heap) (P : Option Value → oDs → Prop) (T : State) (g : JFrame) : Prop :=
  ∃ s₂ o, Steps p.tables e below (T.setTop g) s₂ ∧ s₂.status = .running ∧ Ended s₂ below o ∧ ∃ v L, o = .returned v ∧ (Fr h0.size L ∧ ∃ ds', P v ds' ∧ oMem Z h0 s₂.heap ds') ∧ FrameEnd s o s₂ L R.cells R.slots
/-- from every state that knows ds, at pc with these locals and this stack, the body returns as P says -/
def oW (p : Program) (l : Launch) (e : Env) (R : Room) (s : State) (m : MethodId) (args : Array Value) (below : List Frame) (meth : Method) (c : Code) (Z : State) (h0 : Heap) (P : Option Value → oDs → Prop) (ds : oDs) (cells slots pc : Nat) (Ls : Array Slot) (S : List Value) : Prop :=
  ∀ T, oIn p l e R s m args below meth c Z h0 T ds cells slots → oEnds p e R s below Z h0 P T (mkF m pc Ls S)
/-- a body's contract: called with as' where the objects made are ds, it returns as P says, within the room rm -/
def oCtr (l : Launch) (Z : State) (h0 : Heap) (ws : List Jvm.Cond) (y : MethodName) (by0 : ByteArray) (ml : Nat) (ret : Option FieldType) (rm : Room) (as' : Array Value) (ds : oDs) (P : Option Value → oDs → Prop) : Prop :=
  ∀ h, oMem Z h0 h ds → MetFree l y (head1 (Jvm.Cond.code y by0 ml ret :: ws) rm) (fun a U => a = as' ∧ Z.Warmed39 U.vm ∧ U.heap = h) (fun _ _ _ _ _ => True)
    (fun _ U o U' => ∃ v L, o = .returned v ∧ (Fr h0.size L ∧ ∃ ds', P v ds' ∧ oMem Z h0 U'.heap ds') ∧ FrameEnd U o U' L rm.cells rm.slots)
def oVal (P2 : Value → oDs → Prop) (v : Option Value) (ds : oDs) : Prop := ∃ w, v = some w ∧ P2 w ds
def oVoid (P3 : oDs → Prop) (v : Option Value) (ds : oDs) : Prop := v = none ∧ P3 ds
theorem oCtr.of {l : Launch} {Z : State} {h0 : Heap} {ws : List Jvm.Cond} {y : MethodName} {by0 : ByteArray} {ml : Nat} {ret : Option FieldType} {rm : Room} {as' : Array Value} {ds : oDs} {P : Option Value → oDs → Prop} {Ls : Array Slot}
    (hpl : plainFor y = true) (hef : ∀ m, entryFrame m as' ml = mkF m 0 Ls [])
    (hb : ∀ p e s m below meth c, oK p s m meth c Z y.cls by0 ml ret y.name → oW p l e rm s m as' below meth c Z h0 P ds 0 0 0 Ls []) : oCtr l Z h0 ws y by0 ml ret rm as' ds P := by
  intro h M
  refine MetFree.of_bodySF hpl hisR ?_
  intro p e s m args below meth c s₁ Bd hml0 hP hK
  obtain ⟨rfl, hZ, hh⟩ := hP
  have e0 : s₁.heap = h := by rw [← hh, Bd.state]; rfl
  have K : oK p s m meth c Z y.cls by0 ml ret y.name := ⟨⟨Bd.exec, hZ, Bd.bytes, hml0⟩, findClass_of_methodNamed Bd.named, Bd.returns, Bd.notSynchronized, (name_of_methodNamed Bd.named Bd.method).1⟩
  obtain ⟨s₂, o, h1, h2⟩ := hb p e s m below meth c K s₁ ⟨[], Stand.of_body Bd, Fr.nil _, by rw [e0]; exact M⟩
  exact ⟨s₂, o, castTop (hef m) h1, h2⟩
section Steps
variable {p : Program} {l : Launch} {e : Env} {R : Room} {s : State} {m : MethodId} {args : Array Value} {below : List Frame} {meth : Method} {c : Code} {Z : State} {h0 : Heap} {own nm : String} {by0 : ByteArray} {ml : Nat} {ret : Option FieldType} {P : Option Value → oDs → Prop} {ds ds' : oDs} {cells slots pc pc' : Nat} {Ls Ls' : Array Slot} {S S' : List Value} {a0 : Array Value}
theorem oW.pure (st : ∀ T locs, Stand p l e R s m args below meth c T locs cells slots → ∀ t, Steps p.tables e below (T.setTop (mkF m pc' Ls' S')) t → Steps p.tables e below (T.setTop (mkF m pc Ls S)) t) (hr : oW p l e R s m args below meth c Z h0 P ds cells slots pc' Ls' S') : oW p l e R s m args below meth c Z h0 P ds cells slots pc Ls S := by
  rintro T ⟨locs, X, N, M⟩
  obtain ⟨s₂, o, h1, h2⟩ := hr T ⟨locs, X, N, M⟩
  exact ⟨s₂, o, st T locs X _ h1, h2⟩
theorem oW.ends {T T' : State} {g g' : JFrame} (st : ∀ t, Steps p.tables e below (T'.setTop g') t → Steps p.tables e below (T.setTop g) t) (hr : oEnds p e R s below Z h0 P T' g') : oEnds p e R s below Z h0 P T g := by
  obtain ⟨s₂, o, h1, h2⟩ := hr
  exact ⟨s₂, o, st _ h1, h2⟩
theorem oW.join {α : Type} {F : α → Prop} {pcj : Nat} {Lf : α → Array Slot} {Sf : α → List Value} {dsf : α → oDs} (h1 : (∀ z, F z → oW p l e R s m args below meth c Z h0 P (dsf z) cells slots pcj (Lf z) (Sf z)) → oW p l e R s m args below meth c Z h0 P ds cells slots pc Ls S) (h2 : ∀ z, F z → oW p l e R s m args below meth c Z h0 P (dsf z) cells slots pcj (Lf z) (Sf z)) : oW p l e R s m args below meth c Z h0 P ds cells slots pc Ls S := h1 h2
theorem oW.iload (K : oK p s m meth c Z own by0 ml ret nm) {k : Nat} {v : Int32} (hd : decode by0 pc = .ok (.iload k, 2)) (hl : Ls[k]? = some (.val (.int v))) (hp : pc + 2 = pc') (hr : oW p l e R s m args below meth c Z h0 P ds cells slots pc' Ls (.int v :: S)) : oW p l e R s m args below meth c Z h0 P ds cells slots pc Ls (S) := by
  subst hp
  exact oW.pure (fun T locs X t k => XS.iload X.here K.1.1 rfl (hb K.1.2.2.1 hd) hl k) hr
theorem oW.iloadN (K : oK p s m meth c Z own by0 ml ret nm) {k : Fin 4} {v : Int32} (hd : decode by0 pc = .ok (.iload_n k, 1)) (hl : Ls[k.val]? = some (.val (.int v))) (hp : pc + 1 = pc') (hr : oW p l e R s m args below meth c Z h0 P ds cells slots pc' Ls (.int v :: S)) : oW p l e R s m args below meth c Z h0 P ds cells slots pc Ls (S) := by
  subst hp
  exact oW.pure (fun T locs X t k => XS.iloadN X.here K.1.1 rfl (hb K.1.2.2.1 hd) hl k) hr
theorem oW.istore (K : oK p s m meth c Z own by0 ml ret nm) {k : Nat} {v : Int32} (hd : decode by0 pc = .ok (.istore k, 2)) (hl : storeLocals Ls k (.int v) = some Ls') (hp : pc + 2 = pc') (hr : oW p l e R s m args below meth c Z h0 P ds cells slots pc' Ls' (S)) : oW p l e R s m args below meth c Z h0 P ds cells slots pc Ls (.int v :: S) := by
  subst hp
  exact oW.pure (fun T locs X t k => XS.istore X.here K.1.1 rfl (hb K.1.2.2.1 hd) rfl hl k) hr
theorem oW.istoreN (K : oK p s m meth c Z own by0 ml ret nm) {k : Fin 4} {v : Int32} (hd : decode by0 pc = .ok (.istore_n k, 1)) (hl : storeLocals Ls k.val (.int v) = some Ls') (hp : pc + 1 = pc') (hr : oW p l e R s m args below meth c Z h0 P ds cells slots pc' Ls' (S)) : oW p l e R s m args below meth c Z h0 P ds cells slots pc Ls (.int v :: S) := by
  subst hp
  exact oW.pure (fun T locs X t k => XS.istoreN X.here K.1.1 rfl (hb K.1.2.2.1 hd) rfl hl k) hr
theorem oW.lload (K : oK p s m meth c Z own by0 ml ret nm) {k : Nat} {v : Int64} (hd : decode by0 pc = .ok (.lload k, 2)) (hl : Ls[k]? = some (.val (.long v))) (hp : pc + 2 = pc') (hr : oW p l e R s m args below meth c Z h0 P ds cells slots pc' Ls (.long v :: S)) : oW p l e R s m args below meth c Z h0 P ds cells slots pc Ls (S) := by
  subst hp
  exact oW.pure (fun T locs X t k => XS.lload X.here K.1.1 rfl (hb K.1.2.2.1 hd) hl k) hr
theorem oW.lloadN (K : oK p s m meth c Z own by0 ml ret nm) {k : Fin 4} {v : Int64} (hd : decode by0 pc = .ok (.lload_n k, 1)) (hl : Ls[k.val]? = some (.val (.long v))) (hp : pc + 1 = pc') (hr : oW p l e R s m args below meth c Z h0 P ds cells slots pc' Ls (.long v :: S)) : oW p l e R s m args below meth c Z h0 P ds cells slots pc Ls (S) := by
  subst hp
  exact oW.pure (fun T locs X t k => XS.lloadN X.here K.1.1 rfl (hb K.1.2.2.1 hd) hl k) hr
theorem oW.lstore (K : oK p s m meth c Z own by0 ml ret nm) {k : Nat} {v : Int64} (hd : decode by0 pc = .ok (.lstore k, 2)) (hl : storeLocals Ls k (.long v) = some Ls') (hp : pc + 2 = pc') (hr : oW p l e R s m args below meth c Z h0 P ds cells slots pc' Ls' (S)) : oW p l e R s m args below meth c Z h0 P ds cells slots pc Ls (.long v :: S) := by
  subst hp
  exact oW.pure (fun T locs X t k => XS.lstore X.here K.1.1 rfl (hb K.1.2.2.1 hd) rfl hl k) hr
theorem oW.lstoreN (K : oK p s m meth c Z own by0 ml ret nm) {k : Fin 4} {v : Int64} (hd : decode by0 pc = .ok (.lstore_n k, 1)) (hl : storeLocals Ls k.val (.long v) = some Ls') (hp : pc + 1 = pc') (hr : oW p l e R s m args below meth c Z h0 P ds cells slots pc' Ls' (S)) : oW p l e R s m args below meth c Z h0 P ds cells slots pc Ls (.long v :: S) := by
  subst hp
  exact oW.pure (fun T locs X t k => XS.lstoreN X.here K.1.1 rfl (hb K.1.2.2.1 hd) rfl hl k) hr
theorem oW.dload (K : oK p s m meth c Z own by0 ml ret nm) {k : Nat} {v : UInt64} (hd : decode by0 pc = .ok (.dload k, 2)) (hl : Ls[k]? = some (.val (.double v))) (hp : pc + 2 = pc') (hr : oW p l e R s m args below meth c Z h0 P ds cells slots pc' Ls (.double v :: S)) : oW p l e R s m args below meth c Z h0 P ds cells slots pc Ls (S) := by
  subst hp
  exact oW.pure (fun T locs X t k => XS.dload X.here K.1.1 rfl (hb K.1.2.2.1 hd) hl k) hr
theorem oW.dloadN (K : oK p s m meth c Z own by0 ml ret nm) {k : Fin 4} {v : UInt64} (hd : decode by0 pc = .ok (.dload_n k, 1)) (hl : Ls[k.val]? = some (.val (.double v))) (hp : pc + 1 = pc') (hr : oW p l e R s m args below meth c Z h0 P ds cells slots pc' Ls (.double v :: S)) : oW p l e R s m args below meth c Z h0 P ds cells slots pc Ls (S) := by
  subst hp
  exact oW.pure (fun T locs X t k => XS.dloadN X.here K.1.1 rfl (hb K.1.2.2.1 hd) hl k) hr
theorem oW.dstore (K : oK p s m meth c Z own by0 ml ret nm) {k : Nat} {v : UInt64} (hd : decode by0 pc = .ok (.dstore k, 2)) (hl : storeLocals Ls k (.double v) = some Ls') (hp : pc + 2 = pc') (hr : oW p l e R s m args below meth c Z h0 P ds cells slots pc' Ls' (S)) : oW p l e R s m args below meth c Z h0 P ds cells slots pc Ls (.double v :: S) := by
  subst hp
  exact oW.pure (fun T locs X t k => XS.dstore X.here K.1.1 rfl (hb K.1.2.2.1 hd) rfl hl k) hr
theorem oW.dstoreN (K : oK p s m meth c Z own by0 ml ret nm) {k : Fin 4} {v : UInt64} (hd : decode by0 pc = .ok (.dstore_n k, 1)) (hl : storeLocals Ls k.val (.double v) = some Ls') (hp : pc + 1 = pc') (hr : oW p l e R s m args below meth c Z h0 P ds cells slots pc' Ls' (S)) : oW p l e R s m args below meth c Z h0 P ds cells slots pc Ls (.double v :: S) := by
  subst hp
  exact oW.pure (fun T locs X t k => XS.dstoreN X.here K.1.1 rfl (hb K.1.2.2.1 hd) rfl hl k) hr
theorem oW.aload (K : oK p s m meth c Z own by0 ml ret nm) {k : Nat} {v : Value} (hd : decode by0 pc = .ok (.aload k, 2)) (hl : Ls[k]? = some (.val v)) (hv : v.isRef = true) (hp : pc + 2 = pc') (hr : oW p l e R s m args below meth c Z h0 P ds cells slots pc' Ls (v :: S)) : oW p l e R s m args below meth c Z h0 P ds cells slots pc Ls (S) := by
  subst hp
  exact oW.pure (fun T locs X t k => XS.aload X.here K.1.1 rfl (hb K.1.2.2.1 hd) hl hv k) hr
theorem oW.aloadN (K : oK p s m meth c Z own by0 ml ret nm) {k : Fin 4} {v : Value} (hd : decode by0 pc = .ok (.aload_n k, 1)) (hl : Ls[k.val]? = some (.val v)) (hv : v.isRef = true) (hp : pc + 1 = pc') (hr : oW p l e R s m args below meth c Z h0 P ds cells slots pc' Ls (v :: S)) : oW p l e R s m args below meth c Z h0 P ds cells slots pc Ls (S) := by
  subst hp
  exact oW.pure (fun T locs X t k => XS.aloadN X.here K.1.1 rfl (hb K.1.2.2.1 hd) hl hv k) hr
theorem oW.astore (K : oK p s m meth c Z own by0 ml ret nm) {k : Nat} {v : Value} (hd : decode by0 pc = .ok (.astore k, 2)) (hv : v.isRef = true) (hl : storeLocals Ls k v = some Ls') (hp : pc + 2 = pc') (hr : oW p l e R s m args below meth c Z h0 P ds cells slots pc' Ls' (S)) : oW p l e R s m args below meth c Z h0 P ds cells slots pc Ls (v :: S) := by
  subst hp
  exact oW.pure (fun T locs X t k => XS.astore X.here K.1.1 rfl (hb K.1.2.2.1 hd) rfl hv hl k) hr
theorem oW.astoreN (K : oK p s m meth c Z own by0 ml ret nm) {k : Fin 4} {v : Value} (hd : decode by0 pc = .ok (.astore_n k, 1)) (hv : v.isRef = true) (hl : storeLocals Ls k.val v = some Ls') (hp : pc + 1 = pc') (hr : oW p l e R s m args below meth c Z h0 P ds cells slots pc' Ls' (S)) : oW p l e R s m args below meth c Z h0 P ds cells slots pc Ls (v :: S) := by
  subst hp
  exact oW.pure (fun T locs X t k => XS.astoreN X.here K.1.1 rfl (hb K.1.2.2.1 hd) rfl hv hl k) hr
theorem oW.aconstNull (K : oK p s m meth c Z own by0 ml ret nm)  (hd : decode by0 pc = .ok (.aconst_null, 1))  (hp : pc + 1 = pc') (hr : oW p l e R s m args below meth c Z h0 P ds cells slots pc' Ls (.null :: S)) : oW p l e R s m args below meth c Z h0 P ds cells slots pc Ls (S) := by
  subst hp
  exact oW.pure (fun T locs X t k => XS.aconstNull X.here K.1.1 rfl (hb K.1.2.2.1 hd) k) hr
theorem oW.iconst (K : oK p s m meth c Z own by0 ml ret nm) {i : Int} {v : Int32} (hd : decode by0 pc = .ok (.iconst i, 1)) (hv : v = Int32.ofInt i) (hp : pc + 1 = pc') (hr : oW p l e R s m args below meth c Z h0 P ds cells slots pc' Ls (.int v :: S)) : oW p l e R s m args below meth c Z h0 P ds cells slots pc Ls (S) := by
  subst hp hv
  exact oW.pure (fun T locs X t k => XS.iconst X.here K.1.1 rfl (hb K.1.2.2.1 hd) k) hr
theorem oW.bipush (K : oK p s m meth c Z own by0 ml ret nm) {i : Int} {v : Int32} (hd : decode by0 pc = .ok (.bipush i, 2)) (hv : v = (Int8.ofInt i).toInt32) (hp : pc + 2 = pc') (hr : oW p l e R s m args below meth c Z h0 P ds cells slots pc' Ls (.int v :: S)) : oW p l e R s m args below meth c Z h0 P ds cells slots pc Ls (S) := by
  subst hp hv
  exact oW.pure (fun T locs X t k => XS.bipush X.here K.1.1 rfl (hb K.1.2.2.1 hd) k) hr
theorem oW.sipush (K : oK p s m meth c Z own by0 ml ret nm) {i : Int} {v : Int32} (hd : decode by0 pc = .ok (.sipush i, 3)) (hv : v = (Int16.ofInt i).toInt32) (hp : pc + 3 = pc') (hr : oW p l e R s m args below meth c Z h0 P ds cells slots pc' Ls (.int v :: S)) : oW p l e R s m args below meth c Z h0 P ds cells slots pc Ls (S) := by
  subst hp hv
  exact oW.pure (fun T locs X t k => XS.sipush X.here K.1.1 rfl (hb K.1.2.2.1 hd) k) hr
theorem oW.lconst (K : oK p s m meth c Z own by0 ml ret nm) {k : Fin 2} {v : Int64} (hd : decode by0 pc = .ok (.lconst k, 1)) (hv : v = Int64.ofNat k.val) (hp : pc + 1 = pc') (hr : oW p l e R s m args below meth c Z h0 P ds cells slots pc' Ls (.long v :: S)) : oW p l e R s m args below meth c Z h0 P ds cells slots pc Ls (S) := by
  subst hp hv
  exact oW.pure (fun T locs X t k => XT.lconst X.here K.1.1 rfl (hb K.1.2.2.1 hd) k) hr
theorem oW.dconst0 (K : oK p s m meth c Z own by0 ml ret nm)  (hd : decode by0 pc = .ok (.dconst 0, 1))  (hp : pc + 1 = pc') (hr : oW p l e R s m args below meth c Z h0 P ds cells slots pc' Ls (.double 0 :: S)) : oW p l e R s m args below meth c Z h0 P ds cells slots pc Ls (S) := by
  subst hp
  exact oW.pure (fun T locs X t k => XS.dconst0 X.here K.1.1 rfl (hb K.1.2.2.1 hd) rfl k) hr
theorem oW.dconst1 (K : oK p s m meth c Z own by0 ml ret nm)  (hd : decode by0 pc = .ok (.dconst 1, 1))  (hp : pc + 1 = pc') (hr : oW p l e R s m args below meth c Z h0 P ds cells slots pc' Ls (.double 4607182418800017408 :: S)) : oW p l e R s m args below meth c Z h0 P ds cells slots pc Ls (S) := by
  subst hp
  exact oW.pure (fun T locs X t k => XS.dconst1 X.here K.1.1 rfl (hb K.1.2.2.1 hd) rfl k) hr
theorem oW.iadd (K : oK p s m meth c Z own by0 ml ret nm) {x y v : Int32} (hd : decode by0 pc = .ok (.iadd, 1)) (hv : v = x + y) (hp : pc + 1 = pc') (hr : oW p l e R s m args below meth c Z h0 P ds cells slots pc' Ls (.int v :: S)) : oW p l e R s m args below meth c Z h0 P ds cells slots pc Ls (.int y :: .int x :: S) := by
  subst hp hv
  exact oW.pure (fun T locs X t k => XS.iadd X.here K.1.1 rfl (hb K.1.2.2.1 hd) rfl k) hr
theorem oW.ladd (K : oK p s m meth c Z own by0 ml ret nm) {x y v : Int64} (hd : decode by0 pc = .ok (.ladd, 1)) (hv : v = x + y) (hp : pc + 1 = pc') (hr : oW p l e R s m args below meth c Z h0 P ds cells slots pc' Ls (.long v :: S)) : oW p l e R s m args below meth c Z h0 P ds cells slots pc Ls (.long y :: .long x :: S) := by
  subst hp hv
  exact oW.pure (fun T locs X t k => XT.ladd X.here K.1.1 rfl (hb K.1.2.2.1 hd) rfl k) hr
theorem oW.isub (K : oK p s m meth c Z own by0 ml ret nm) {x y v : Int32} (hd : decode by0 pc = .ok (.isub, 1)) (hv : v = x - y) (hp : pc + 1 = pc') (hr : oW p l e R s m args below meth c Z h0 P ds cells slots pc' Ls (.int v :: S)) : oW p l e R s m args below meth c Z h0 P ds cells slots pc Ls (.int y :: .int x :: S) := by
  subst hp hv
  exact oW.pure (fun T locs X t k => XS.isub X.here K.1.1 rfl (hb K.1.2.2.1 hd) rfl k) hr
theorem oW.lsub (K : oK p s m meth c Z own by0 ml ret nm) {x y v : Int64} (hd : decode by0 pc = .ok (.lsub, 1)) (hv : v = x - y) (hp : pc + 1 = pc') (hr : oW p l e R s m args below meth c Z h0 P ds cells slots pc' Ls (.long v :: S)) : oW p l e R s m args below meth c Z h0 P ds cells slots pc Ls (.long y :: .long x :: S) := by
  subst hp hv
  exact oW.pure (fun T locs X t k => XT.lsub X.here K.1.1 rfl (hb K.1.2.2.1 hd) rfl k) hr
theorem oW.imul (K : oK p s m meth c Z own by0 ml ret nm) {x y v : Int32} (hd : decode by0 pc = .ok (.imul, 1)) (hv : v = x * y) (hp : pc + 1 = pc') (hr : oW p l e R s m args below meth c Z h0 P ds cells slots pc' Ls (.int v :: S)) : oW p l e R s m args below meth c Z h0 P ds cells slots pc Ls (.int y :: .int x :: S) := by
  subst hp hv
  exact oW.pure (fun T locs X t k => XS.imul X.here K.1.1 rfl (hb K.1.2.2.1 hd) rfl k) hr
theorem oW.lmul (K : oK p s m meth c Z own by0 ml ret nm) {x y v : Int64} (hd : decode by0 pc = .ok (.lmul, 1)) (hv : v = x * y) (hp : pc + 1 = pc') (hr : oW p l e R s m args below meth c Z h0 P ds cells slots pc' Ls (.long v :: S)) : oW p l e R s m args below meth c Z h0 P ds cells slots pc Ls (.long y :: .long x :: S) := by
  subst hp hv
  exact oW.pure (fun T locs X t k => XT.lmul X.here K.1.1 rfl (hb K.1.2.2.1 hd) rfl k) hr
theorem oW.iand (K : oK p s m meth c Z own by0 ml ret nm) {x y v : Int32} (hd : decode by0 pc = .ok (.iand, 1)) (hv : v = x &&& y) (hp : pc + 1 = pc') (hr : oW p l e R s m args below meth c Z h0 P ds cells slots pc' Ls (.int v :: S)) : oW p l e R s m args below meth c Z h0 P ds cells slots pc Ls (.int y :: .int x :: S) := by
  subst hp hv
  exact oW.pure (fun T locs X t k => XS.iand X.here K.1.1 rfl (hb K.1.2.2.1 hd) rfl k) hr
theorem oW.land (K : oK p s m meth c Z own by0 ml ret nm) {x y v : Int64} (hd : decode by0 pc = .ok (.land, 1)) (hv : v = x &&& y) (hp : pc + 1 = pc') (hr : oW p l e R s m args below meth c Z h0 P ds cells slots pc' Ls (.long v :: S)) : oW p l e R s m args below meth c Z h0 P ds cells slots pc Ls (.long y :: .long x :: S) := by
  subst hp hv
  exact oW.pure (fun T locs X t k => XT.land X.here K.1.1 rfl (hb K.1.2.2.1 hd) rfl k) hr
theorem oW.ior (K : oK p s m meth c Z own by0 ml ret nm) {x y v : Int32} (hd : decode by0 pc = .ok (.ior, 1)) (hv : v = x ||| y) (hp : pc + 1 = pc') (hr : oW p l e R s m args below meth c Z h0 P ds cells slots pc' Ls (.int v :: S)) : oW p l e R s m args below meth c Z h0 P ds cells slots pc Ls (.int y :: .int x :: S) := by
  subst hp hv
  exact oW.pure (fun T locs X t k => XT.ior X.here K.1.1 rfl (hb K.1.2.2.1 hd) rfl k) hr
theorem oW.lor (K : oK p s m meth c Z own by0 ml ret nm) {x y v : Int64} (hd : decode by0 pc = .ok (.lor, 1)) (hv : v = x ||| y) (hp : pc + 1 = pc') (hr : oW p l e R s m args below meth c Z h0 P ds cells slots pc' Ls (.long v :: S)) : oW p l e R s m args below meth c Z h0 P ds cells slots pc Ls (.long y :: .long x :: S) := by
  subst hp hv
  exact oW.pure (fun T locs X t k => XT.lor X.here K.1.1 rfl (hb K.1.2.2.1 hd) rfl k) hr
theorem oW.ixor (K : oK p s m meth c Z own by0 ml ret nm) {x y v : Int32} (hd : decode by0 pc = .ok (.ixor, 1)) (hv : v = x ^^^ y) (hp : pc + 1 = pc') (hr : oW p l e R s m args below meth c Z h0 P ds cells slots pc' Ls (.int v :: S)) : oW p l e R s m args below meth c Z h0 P ds cells slots pc Ls (.int y :: .int x :: S) := by
  subst hp hv
  exact oW.pure (fun T locs X t k => XT.ixor X.here K.1.1 rfl (hb K.1.2.2.1 hd) rfl k) hr
theorem oW.lxor (K : oK p s m meth c Z own by0 ml ret nm) {x y v : Int64} (hd : decode by0 pc = .ok (.lxor, 1)) (hv : v = x ^^^ y) (hp : pc + 1 = pc') (hr : oW p l e R s m args below meth c Z h0 P ds cells slots pc' Ls (.long v :: S)) : oW p l e R s m args below meth c Z h0 P ds cells slots pc Ls (.long y :: .long x :: S) := by
  subst hp hv
  exact oW.pure (fun T locs X t k => XT.lxor X.here K.1.1 rfl (hb K.1.2.2.1 hd) rfl k) hr
theorem oW.idiv (K : oK p s m meth c Z own by0 ml ret nm) {x y v : Int32} (hd : decode by0 pc = .ok (.idiv, 1)) (hy : y ≠ 0) (hv : v = x / y) (hp : pc + 1 = pc') (hr : oW p l e R s m args below meth c Z h0 P ds cells slots pc' Ls (.int v :: S)) : oW p l e R s m args below meth c Z h0 P ds cells slots pc Ls (.int y :: .int x :: S) := by
  subst hp hv
  exact oW.pure (fun T locs X t k => XS.idiv X.here K.1.1 rfl (hb K.1.2.2.1 hd) rfl hy k) hr
theorem oW.irem (K : oK p s m meth c Z own by0 ml ret nm) {x y v : Int32} (hd : decode by0 pc = .ok (.irem, 1)) (hy : y ≠ 0) (hv : v = x % y) (hp : pc + 1 = pc') (hr : oW p l e R s m args below meth c Z h0 P ds cells slots pc' Ls (.int v :: S)) : oW p l e R s m args below meth c Z h0 P ds cells slots pc Ls (.int y :: .int x :: S) := by
  subst hp hv
  exact oW.pure (fun T locs X t k => iremM X K.1.1 rfl (hb K.1.2.2.1 hd) rfl hy k) hr
theorem oW.ineg (K : oK p s m meth c Z own by0 ml ret nm) {x v : Int32} (hd : decode by0 pc = .ok (.ineg, 1)) (hv : v = -x) (hp : pc + 1 = pc') (hr : oW p l e R s m args below meth c Z h0 P ds cells slots pc' Ls (.int v :: S)) : oW p l e R s m args below meth c Z h0 P ds cells slots pc Ls (.int x :: S) := by
  subst hp hv
  exact oW.pure (fun T locs X t k => XS.ineg X.here K.1.1 rfl (hb K.1.2.2.1 hd) rfl k) hr
theorem oW.ishl (K : oK p s m meth c Z own by0 ml ret nm) {x y v : Int32} (hd : decode by0 pc = .ok (.ishl, 1)) (hv : v = x <<< (y &&& 31)) (hp : pc + 1 = pc') (hr : oW p l e R s m args below meth c Z h0 P ds cells slots pc' Ls (.int v :: S)) : oW p l e R s m args below meth c Z h0 P ds cells slots pc Ls (.int y :: .int x :: S) := by
  subst hp hv
  exact oW.pure (fun T locs X t k => XT.ishl X.here K.1.1 rfl (hb K.1.2.2.1 hd) rfl k) hr
theorem oW.ishr (K : oK p s m meth c Z own by0 ml ret nm) {x y v : Int32} (hd : decode by0 pc = .ok (.ishr, 1)) (hv : v = x >>> (y &&& 31)) (hp : pc + 1 = pc') (hr : oW p l e R s m args below meth c Z h0 P ds cells slots pc' Ls (.int v :: S)) : oW p l e R s m args below meth c Z h0 P ds cells slots pc Ls (.int y :: .int x :: S) := by
  subst hp hv
  exact oW.pure (fun T locs X t k => XT.ishr X.here K.1.1 rfl (hb K.1.2.2.1 hd) rfl k) hr
theorem oW.iushr (K : oK p s m meth c Z own by0 ml ret nm) {x y v : Int32} (hd : decode by0 pc = .ok (.iushr, 1)) (hv : v = XT.ushr x y) (hp : pc + 1 = pc') (hr : oW p l e R s m args below meth c Z h0 P ds cells slots pc' Ls (.int v :: S)) : oW p l e R s m args below meth c Z h0 P ds cells slots pc Ls (.int y :: .int x :: S) := by
  subst hp hv
  exact oW.pure (fun T locs X t k => XT.iushr X.here K.1.1 rfl (hb K.1.2.2.1 hd) rfl k) hr
theorem oW.iinc (K : oK p s m meth c Z own by0 ml ret nm) {k : Nat} {cst : Int} {x v : Int32} (hd : decode by0 pc = .ok (.iinc k cst, 3)) (hl : Ls[k]? = some (.val (.int x))) (hv : v = x + Int32.ofInt cst) (hs : storeLocals Ls k (.int v) = some Ls') (hp : pc + 3 = pc') (hr : oW p l e R s m args below meth c Z h0 P ds cells slots pc' Ls' (S)) : oW p l e R s m args below meth c Z h0 P ds cells slots pc Ls (S) := by
  subst hp hv
  exact oW.pure (fun T locs X t k => XS.iinc X.here K.1.1 rfl (hb K.1.2.2.1 hd) hl hs k) hr
theorem oW.i2l (K : oK p s m meth c Z own by0 ml ret nm) {x : Int32} {v : Int64} (hd : decode by0 pc = .ok (.i2l, 1)) (hv : v = x.toInt64) (hp : pc + 1 = pc') (hr : oW p l e R s m args below meth c Z h0 P ds cells slots pc' Ls (.long v :: S)) : oW p l e R s m args below meth c Z h0 P ds cells slots pc Ls (.int x :: S) := by
  subst hp hv
  exact oW.pure (fun T locs X t k => XT.i2l X.here K.1.1 rfl (hb K.1.2.2.1 hd) rfl k) hr
theorem oW.l2i (K : oK p s m meth c Z own by0 ml ret nm) {x : Int64} {v : Int32} (hd : decode by0 pc = .ok (.l2i, 1)) (hv : v = x.toInt32) (hp : pc + 1 = pc') (hr : oW p l e R s m args below meth c Z h0 P ds cells slots pc' Ls (.int v :: S)) : oW p l e R s m args below meth c Z h0 P ds cells slots pc Ls (.long x :: S) := by
  subst hp hv
  exact oW.pure (fun T locs X t k => XT.l2i X.here K.1.1 rfl (hb K.1.2.2.1 hd) rfl k) hr
theorem oW.i2s (K : oK p s m meth c Z own by0 ml ret nm) {x v : Int32} (hd : decode by0 pc = .ok (.i2s, 1)) (hv : v = x.toInt16.toInt32) (hp : pc + 1 = pc') (hr : oW p l e R s m args below meth c Z h0 P ds cells slots pc' Ls (.int v :: S)) : oW p l e R s m args below meth c Z h0 P ds cells slots pc Ls (.int x :: S) := by
  subst hp hv
  exact oW.pure (fun T locs X t k => XT.i2s X.here K.1.1 rfl (hb K.1.2.2.1 hd) rfl k) hr
theorem oW.lshl (K : oK p s m meth c Z own by0 ml ret nm) {x v : Int64} {y : Int32} (hd : decode by0 pc = .ok (.lshl, 1)) (hv : v = x <<< (y.toInt64 &&& 63)) (hp : pc + 1 = pc') (hr : oW p l e R s m args below meth c Z h0 P ds cells slots pc' Ls (.long v :: S)) : oW p l e R s m args below meth c Z h0 P ds cells slots pc Ls (.int y :: .long x :: S) := by
  subst hp hv
  exact oW.pure (fun T locs X t k => XT.lshl X.here K.1.1 rfl (hb K.1.2.2.1 hd) rfl k) hr
theorem oW.lshr (K : oK p s m meth c Z own by0 ml ret nm) {x v : Int64} {y : Int32} (hd : decode by0 pc = .ok (.lshr, 1)) (hv : v = x >>> (y.toInt64 &&& 63)) (hp : pc + 1 = pc') (hr : oW p l e R s m args below meth c Z h0 P ds cells slots pc' Ls (.long v :: S)) : oW p l e R s m args below meth c Z h0 P ds cells slots pc Ls (.int y :: .long x :: S) := by
  subst hp hv
  exact oW.pure (fun T locs X t k => XT.lshr X.here K.1.1 rfl (hb K.1.2.2.1 hd) rfl k) hr
theorem oW.lushr (K : oK p s m meth c Z own by0 ml ret nm) {x v : Int64} {y : Int32} (hd : decode by0 pc = .ok (.lushr, 1)) (hv : v = XT.ushrL x y) (hp : pc + 1 = pc') (hr : oW p l e R s m args below meth c Z h0 P ds cells slots pc' Ls (.long v :: S)) : oW p l e R s m args below meth c Z h0 P ds cells slots pc Ls (.int y :: .long x :: S) := by
  subst hp hv
  exact oW.pure (fun T locs X t k => XT.lushr X.here K.1.1 rfl (hb K.1.2.2.1 hd) rfl k) hr
theorem oW.lcmp (K : oK p s m meth c Z own by0 ml ret nm) {x y : Int64} {v : Int32} (hd : decode by0 pc = .ok (.lcmp, 1)) (hv : v = XT.cmpL x y) (hp : pc + 1 = pc') (hr : oW p l e R s m args below meth c Z h0 P ds cells slots pc' Ls (.int v :: S)) : oW p l e R s m args below meth c Z h0 P ds cells slots pc Ls (.long y :: .long x :: S) := by
  subst hp hv
  exact oW.pure (fun T locs X t k => XT.lcmp X.here K.1.1 rfl (hb K.1.2.2.1 hd) rfl k) hr
theorem oW.i2d (K : oK p s m meth c Z own by0 ml ret nm) {x : Int32} {v : UInt64} (hd : decode by0 pc = .ok (.i2d, 1)) (hv : v = FP.i2d x) (hp : pc + 1 = pc') (hr : oW p l e R s m args below meth c Z h0 P ds cells slots pc' Ls (.double v :: S)) : oW p l e R s m args below meth c Z h0 P ds cells slots pc Ls (.int x :: S) := by
  subst hp hv
  exact oW.pure (fun T locs X t k => XS.i2dS X.here K.1.1 rfl (hb K.1.2.2.1 hd) rfl rfl k) hr
theorem oW.l2d (K : oK p s m meth c Z own by0 ml ret nm) {x : Int64} {v : UInt64} (hd : decode by0 pc = .ok (.l2d, 1)) (hv : v = FP.l2d x) (hp : pc + 1 = pc') (hr : oW p l e R s m args below meth c Z h0 P ds cells slots pc' Ls (.double v :: S)) : oW p l e R s m args below meth c Z h0 P ds cells slots pc Ls (.long x :: S) := by
  subst hp hv
  exact oW.pure (fun T locs X t k => XS.l2dS X.here K.1.1 rfl (hb K.1.2.2.1 hd) rfl rfl k) hr
theorem oW.dcmp (K : oK p s m meth c Z own by0 ml ret nm) {o : CmpOp} {x y : UInt64} {v : Int32} (hd : decode by0 pc = .ok (.dcmp o, 1)) (hv : v = cmpValue (FP.dcmp x y) o) (hp : pc + 1 = pc') (hr : oW p l e R s m args below meth c Z h0 P ds cells slots pc' Ls (.int v :: S)) : oW p l e R s m args below meth c Z h0 P ds cells slots pc Ls (.double y :: .double x :: S) := by
  subst hp hv
  exact oW.pure (fun T locs X t k => XS.dcmpS X.here K.1.1 rfl (hb K.1.2.2.1 hd) rfl rfl k) hr
theorem oW.dadd (K : oK p s m meth c Z own by0 ml ret nm) {x y v : UInt64} (hd : decode by0 pc = .ok (.dadd, 1)) (hv : v = FP.dadd x y) (hn : Jvm.Free.Fl.NoNaN64 v) (hp : pc + 1 = pc') (hr : oW p l e R s m args below meth c Z h0 P ds cells slots pc' Ls (.double v :: S)) : oW p l e R s m args below meth c Z h0 P ds cells slots pc Ls (.double y :: .double x :: S) := by
  subst hp hv
  exact oW.pure (fun T locs X t k => XS.daddS X.here K.1.1 rfl (hb K.1.2.2.1 hd) rfl hn rfl k) hr
theorem oW.dsub (K : oK p s m meth c Z own by0 ml ret nm) {x y v : UInt64} (hd : decode by0 pc = .ok (.dsub, 1)) (hv : v = FP.dsub x y) (hn : Jvm.Free.Fl.NoNaN64 v) (hp : pc + 1 = pc') (hr : oW p l e R s m args below meth c Z h0 P ds cells slots pc' Ls (.double v :: S)) : oW p l e R s m args below meth c Z h0 P ds cells slots pc Ls (.double y :: .double x :: S) := by
  subst hp hv
  exact oW.pure (fun T locs X t k => XS.dsubS X.here K.1.1 rfl (hb K.1.2.2.1 hd) rfl hn rfl k) hr
theorem oW.dmul (K : oK p s m meth c Z own by0 ml ret nm) {x y v : UInt64} (hd : decode by0 pc = .ok (.dmul, 1)) (hv : v = FP.dmul x y) (hn : Jvm.Free.Fl.NoNaN64 v) (hp : pc + 1 = pc') (hr : oW p l e R s m args below meth c Z h0 P ds cells slots pc' Ls (.double v :: S)) : oW p l e R s m args below meth c Z h0 P ds cells slots pc Ls (.double y :: .double x :: S) := by
  subst hp hv
  exact oW.pure (fun T locs X t k => XS.dmulS X.here K.1.1 rfl (hb K.1.2.2.1 hd) rfl hn rfl k) hr
theorem oW.ddiv (K : oK p s m meth c Z own by0 ml ret nm) {x y v : UInt64} (hd : decode by0 pc = .ok (.ddiv, 1)) (hv : v = FP.ddiv x y) (hn : Jvm.Free.Fl.NoNaN64 v) (hp : pc + 1 = pc') (hr : oW p l e R s m args below meth c Z h0 P ds cells slots pc' Ls (.double v :: S)) : oW p l e R s m args below meth c Z h0 P ds cells slots pc Ls (.double y :: .double x :: S) := by
  subst hp hv
  exact oW.pure (fun T locs X t k => XS.ddivS X.here K.1.1 rfl (hb K.1.2.2.1 hd) rfl hn rfl k) hr
theorem oW.dup (K : oK p s m meth c Z own by0 ml ret nm) {x : Value} (hd : decode by0 pc = .ok (.dup, 1)) (hc : x.category = 1) (hp : pc + 1 = pc') (hr : oW p l e R s m args below meth c Z h0 P ds cells slots pc' Ls (x :: x :: S)) : oW p l e R s m args below meth c Z h0 P ds cells slots pc Ls (x :: S) := by
  subst hp
  exact oW.pure (fun T locs X t k => XS.dup X.here K.1.1 rfl (hb K.1.2.2.1 hd) rfl hc k) hr
theorem oW.pop (K : oK p s m meth c Z own by0 ml ret nm) {x : Value} (hd : decode by0 pc = .ok (.pop, 1)) (hc : x.category = 1) (hp : pc + 1 = pc') (hr : oW p l e R s m args below meth c Z h0 P ds cells slots pc' Ls (S)) : oW p l e R s m args below meth c Z h0 P ds cells slots pc Ls (x :: S) := by
  subst hp
  exact oW.pure (fun T locs X t k => XT.pop X.here K.1.1 rfl (hb K.1.2.2.1 hd) rfl hc k) hr
theorem oW.dup2 (K : oK p s m meth c Z own by0 ml ret nm) {x y : Value} (hd : decode by0 pc = .ok (.dup2, 1)) (hc : x.category = 1) (hc' : y.category = 1) (hp : pc + 1 = pc') (hr : oW p l e R s m args below meth c Z h0 P ds cells slots pc' Ls (x :: y :: x :: y :: S)) : oW p l e R s m args below meth c Z h0 P ds cells slots pc Ls (x :: y :: S) := by
  subst hp
  exact oW.pure (fun T locs X t k => XT.dup2 X.here K.1.1 rfl (hb K.1.2.2.1 hd) rfl hc hc' k) hr
theorem oW.dupX1 (K : oK p s m meth c Z own by0 ml ret nm) {x y : Value} (hd : decode by0 pc = .ok (.dup_x1, 1)) (hc : x.category = 1) (hc' : y.category = 1) (hp : pc + 1 = pc') (hr : oW p l e R s m args below meth c Z h0 P ds cells slots pc' Ls (x :: y :: x :: S)) : oW p l e R s m args below meth c Z h0 P ds cells slots pc Ls (x :: y :: S) := by
  subst hp
  exact oW.pure (fun T locs X t k => XT.dupX1 X.here K.1.1 rfl (hb K.1.2.2.1 hd) rfl hc hc' k) hr
theorem oW.goto (K : oK p s m meth c Z own by0 ml ret nm) {o : Int} (hd : decode by0 pc = .ok (.goto o, 3)) (ho : 0 ≤ (pc : Int) + o) (hp : ((pc : Int) + o).toNat = pc') (hr : oW p l e R s m args below meth c Z h0 P ds cells slots pc' Ls S) : oW p l e R s m args below meth c Z h0 P ds cells slots pc Ls S :=
  oW.pure (fun T locs X t k => XS.goto X.here K.1.1 rfl rfl (hb K.1.2.2.1 hd) ho hp k) hr
theorem oW.ifc (K : oK p s m meth c Z own by0 ml ret nm) {cd : ClassFile.Cond} {o : Int} {x : Int32} {pc3 : Nat} (hd : decode by0 pc = .ok (.ifCond cd o, 3)) (ho : 0 ≤ (pc : Int) + o) (hp : ((pc : Int) + o).toNat = pc') (h3 : pc + 3 = pc3) (hy : if_icmp.holds cd x 0 = true → oW p l e R s m args below meth c Z h0 P ds cells slots pc' Ls S) (hn : if_icmp.holds cd x 0 = false → oW p l e R s m args below meth c Z h0 P ds cells slots pc3 Ls S) : oW p l e R s m args below meth c Z h0 P ds cells slots pc Ls (.int x :: S) := by
  subst h3
  cases q : if_icmp.holds cd x 0
  · exact oW.pure (fun T locs X t k => XS.ifNo X.here K.1.1 rfl (hb K.1.2.2.1 hd) rfl ((if0 _ _).trans q) k) (hn q)
  · exact oW.pure (fun T locs X t k => XS.ifYes X.here K.1.1 rfl rfl (hb K.1.2.2.1 hd) rfl ((if0 _ _).trans q) ho hp k) (hy q)
theorem oW.icc (K : oK p s m meth c Z own by0 ml ret nm) {cd : ClassFile.Cond} {o : Int} {x y : Int32} {pc3 : Nat} (hd : decode by0 pc = .ok (.if_icmp cd o, 3)) (ho : 0 ≤ (pc : Int) + o) (hp : ((pc : Int) + o).toNat = pc') (h3 : pc + 3 = pc3) (hy : if_icmp.holds cd x y = true → oW p l e R s m args below meth c Z h0 P ds cells slots pc' Ls S) (hn : if_icmp.holds cd x y = false → oW p l e R s m args below meth c Z h0 P ds cells slots pc3 Ls S) : oW p l e R s m args below meth c Z h0 P ds cells slots pc Ls (.int y :: .int x :: S) := by
  subst h3
  cases q : if_icmp.holds cd x y
  · exact oW.pure (fun T locs X t k => XS.icmpNo X.here K.1.1 rfl (hb K.1.2.2.1 hd) rfl q k) (hn q)
  · exact oW.pure (fun T locs X t k => XS.icmpYes X.here K.1.1 rfl rfl (hb K.1.2.2.1 hd) rfl q ho hp k) (hy q)
theorem oH_lt {x y : Int32} : (if_icmp.holds .lt x y = true → x < y) ∧ (if_icmp.holds .lt x y = false → ¬ x < y) := ⟨fun q => Decidable.byContradiction (fun r => absurd q (by rw [(flt r).1]; decide)), fun q r => absurd q (by rw [(tlt r).1]; decide)⟩
theorem oH_ge {x y : Int32} : (if_icmp.holds .ge x y = true → ¬ x < y) ∧ (if_icmp.holds .ge x y = false → x < y) := ⟨fun q r => absurd q (by rw [(tlt r).2.1]; decide), fun q => Decidable.byContradiction (fun r => absurd q (by rw [(flt r).2.1]; decide))⟩
theorem oH_gt {x y : Int32} : (if_icmp.holds .gt x y = true → y < x) ∧ (if_icmp.holds .gt x y = false → ¬ y < x) := ⟨fun q => Decidable.byContradiction (fun r => absurd q (by rw [(flt r).2.2.1]; decide)), fun q r => absurd q (by rw [(tlt r).2.2.1]; decide)⟩
theorem oH_le {x y : Int32} : (if_icmp.holds .le x y = true → ¬ y < x) ∧ (if_icmp.holds .le x y = false → y < x) := ⟨fun q r => absurd q (by rw [(tlt r).2.2.2]; decide), fun q => Decidable.byContradiction (fun r => absurd q (by rw [(flt r).2.2.2]; decide))⟩
theorem oH_eq {x y : Int32} : (if_icmp.holds .eq x y = true → x = y) ∧ (if_icmp.holds .eq x y = false → ¬ x = y) := ⟨fun q => Decidable.byContradiction (fun r => absurd q (by rw [(feq r).1]; decide)), fun q r => absurd q (by rw [(teq r).1]; decide)⟩
theorem oH_ne {x y : Int32} : (if_icmp.holds .ne x y = true → ¬ x = y) ∧ (if_icmp.holds .ne x y = false → x = y) := ⟨fun q r => absurd q (by rw [(teq r).2]; decide), fun q => Decidable.byContradiction (fun r => absurd q (by rw [(feq r).2]; decide))⟩
theorem oW.if_lt (K : oK p s m meth c Z own by0 ml ret nm) {o : Int} {x : Int32} {pc3 : Nat} (hd : decode by0 pc = .ok (.ifCond .lt o, 3)) (ho : 0 ≤ (pc : Int) + o) (hp : ((pc : Int) + o).toNat = pc') (h3 : pc + 3 = pc3) (hy : x < 0 → oW p l e R s m args below meth c Z h0 P ds cells slots pc' Ls S) (hn : ¬ x < 0 → oW p l e R s m args below meth c Z h0 P ds cells slots pc3 Ls S) : oW p l e R s m args below meth c Z h0 P ds cells slots pc Ls (.int x :: S) :=
  oW.ifc K hd ho hp h3 (fun q => hy (oH_lt.1 q)) (fun q => hn (oH_lt.2 q))
theorem oW.icmp_lt (K : oK p s m meth c Z own by0 ml ret nm) {o : Int} {x y : Int32} {pc3 : Nat} (hd : decode by0 pc = .ok (.if_icmp .lt o, 3)) (ho : 0 ≤ (pc : Int) + o) (hp : ((pc : Int) + o).toNat = pc') (h3 : pc + 3 = pc3) (hy : x < y → oW p l e R s m args below meth c Z h0 P ds cells slots pc' Ls S) (hn : ¬ x < y → oW p l e R s m args below meth c Z h0 P ds cells slots pc3 Ls S) : oW p l e R s m args below meth c Z h0 P ds cells slots pc Ls (.int y :: .int x :: S) :=
  oW.icc K hd ho hp h3 (fun q => hy (oH_lt.1 q)) (fun q => hn (oH_lt.2 q))
theorem oW.if_ge (K : oK p s m meth c Z own by0 ml ret nm) {o : Int} {x : Int32} {pc3 : Nat} (hd : decode by0 pc = .ok (.ifCond .ge o, 3)) (ho : 0 ≤ (pc : Int) + o) (hp : ((pc : Int) + o).toNat = pc') (h3 : pc + 3 = pc3) (hy : ¬ x < 0 → oW p l e R s m args below meth c Z h0 P ds cells slots pc' Ls S) (hn : x < 0 → oW p l e R s m args below meth c Z h0 P ds cells slots pc3 Ls S) : oW p l e R s m args below meth c Z h0 P ds cells slots pc Ls (.int x :: S) :=
  oW.ifc K hd ho hp h3 (fun q => hy (oH_ge.1 q)) (fun q => hn (oH_ge.2 q))
theorem oW.icmp_ge (K : oK p s m meth c Z own by0 ml ret nm) {o : Int} {x y : Int32} {pc3 : Nat} (hd : decode by0 pc = .ok (.if_icmp .ge o, 3)) (ho : 0 ≤ (pc : Int) + o) (hp : ((pc : Int) + o).toNat = pc') (h3 : pc + 3 = pc3) (hy : ¬ x < y → oW p l e R s m args below meth c Z h0 P ds cells slots pc' Ls S) (hn : x < y → oW p l e R s m args below meth c Z h0 P ds cells slots pc3 Ls S) : oW p l e R s m args below meth c Z h0 P ds cells slots pc Ls (.int y :: .int x :: S) :=
  oW.icc K hd ho hp h3 (fun q => hy (oH_ge.1 q)) (fun q => hn (oH_ge.2 q))
theorem oW.if_gt (K : oK p s m meth c Z own by0 ml ret nm) {o : Int} {x : Int32} {pc3 : Nat} (hd : decode by0 pc = .ok (.ifCond .gt o, 3)) (ho : 0 ≤ (pc : Int) + o) (hp : ((pc : Int) + o).toNat = pc') (h3 : pc + 3 = pc3) (hy : 0 < x → oW p l e R s m args below meth c Z h0 P ds cells slots pc' Ls S) (hn : ¬ 0 < x → oW p l e R s m args below meth c Z h0 P ds cells slots pc3 Ls S) : oW p l e R s m args below meth c Z h0 P ds cells slots pc Ls (.int x :: S) :=
  oW.ifc K hd ho hp h3 (fun q => hy (oH_gt.1 q)) (fun q => hn (oH_gt.2 q))
theorem oW.icmp_gt (K : oK p s m meth c Z own by0 ml ret nm) {o : Int} {x y : Int32} {pc3 : Nat} (hd : decode by0 pc = .ok (.if_icmp .gt o, 3)) (ho : 0 ≤ (pc : Int) + o) (hp : ((pc : Int) + o).toNat = pc') (h3 : pc + 3 = pc3) (hy : y < x → oW p l e R s m args below meth c Z h0 P ds cells slots pc' Ls S) (hn : ¬ y < x → oW p l e R s m args below meth c Z h0 P ds cells slots pc3 Ls S) : oW p l e R s m args below meth c Z h0 P ds cells slots pc Ls (.int y :: .int x :: S) :=
  oW.icc K hd ho hp h3 (fun q => hy (oH_gt.1 q)) (fun q => hn (oH_gt.2 q))
theorem oW.if_le (K : oK p s m meth c Z own by0 ml ret nm) {o : Int} {x : Int32} {pc3 : Nat} (hd : decode by0 pc = .ok (.ifCond .le o, 3)) (ho : 0 ≤ (pc : Int) + o) (hp : ((pc : Int) + o).toNat = pc') (h3 : pc + 3 = pc3) (hy : ¬ 0 < x → oW p l e R s m args below meth c Z h0 P ds cells slots pc' Ls S) (hn : 0 < x → oW p l e R s m args below meth c Z h0 P ds cells slots pc3 Ls S) : oW p l e R s m args below meth c Z h0 P ds cells slots pc Ls (.int x :: S) :=
  oW.ifc K hd ho hp h3 (fun q => hy (oH_le.1 q)) (fun q => hn (oH_le.2 q))
theorem oW.icmp_le (K : oK p s m meth c Z own by0 ml ret nm) {o : Int} {x y : Int32} {pc3 : Nat} (hd : decode by0 pc = .ok (.if_icmp .le o, 3)) (ho : 0 ≤ (pc : Int) + o) (hp : ((pc : Int) + o).toNat = pc') (h3 : pc + 3 = pc3) (hy : ¬ y < x → oW p l e R s m args below meth c Z h0 P ds cells slots pc' Ls S) (hn : y < x → oW p l e R s m args below meth c Z h0 P ds cells slots pc3 Ls S) : oW p l e R s m args below meth c Z h0 P ds cells slots pc Ls (.int y :: .int x :: S) :=
  oW.icc K hd ho hp h3 (fun q => hy (oH_le.1 q)) (fun q => hn (oH_le.2 q))
theorem oW.if_eq (K : oK p s m meth c Z own by0 ml ret nm) {o : Int} {x : Int32} {pc3 : Nat} (hd : decode by0 pc = .ok (.ifCond .eq o, 3)) (ho : 0 ≤ (pc : Int) + o) (hp : ((pc : Int) + o).toNat = pc') (h3 : pc + 3 = pc3) (hy : x = 0 → oW p l e R s m args below meth c Z h0 P ds cells slots pc' Ls S) (hn : ¬ x = 0 → oW p l e R s m args below meth c Z h0 P ds cells slots pc3 Ls S) : oW p l e R s m args below meth c Z h0 P ds cells slots pc Ls (.int x :: S) :=
  oW.ifc K hd ho hp h3 (fun q => hy (oH_eq.1 q)) (fun q => hn (oH_eq.2 q))
theorem oW.icmp_eq (K : oK p s m meth c Z own by0 ml ret nm) {o : Int} {x y : Int32} {pc3 : Nat} (hd : decode by0 pc = .ok (.if_icmp .eq o, 3)) (ho : 0 ≤ (pc : Int) + o) (hp : ((pc : Int) + o).toNat = pc') (h3 : pc + 3 = pc3) (hy : x = y → oW p l e R s m args below meth c Z h0 P ds cells slots pc' Ls S) (hn : ¬ x = y → oW p l e R s m args below meth c Z h0 P ds cells slots pc3 Ls S) : oW p l e R s m args below meth c Z h0 P ds cells slots pc Ls (.int y :: .int x :: S) :=
  oW.icc K hd ho hp h3 (fun q => hy (oH_eq.1 q)) (fun q => hn (oH_eq.2 q))
theorem oW.if_ne (K : oK p s m meth c Z own by0 ml ret nm) {o : Int} {x : Int32} {pc3 : Nat} (hd : decode by0 pc = .ok (.ifCond .ne o, 3)) (ho : 0 ≤ (pc : Int) + o) (hp : ((pc : Int) + o).toNat = pc') (h3 : pc + 3 = pc3) (hy : ¬ x = 0 → oW p l e R s m args below meth c Z h0 P ds cells slots pc' Ls S) (hn : x = 0 → oW p l e R s m args below meth c Z h0 P ds cells slots pc3 Ls S) : oW p l e R s m args below meth c Z h0 P ds cells slots pc Ls (.int x :: S) :=
  oW.ifc K hd ho hp h3 (fun q => hy (oH_ne.1 q)) (fun q => hn (oH_ne.2 q))
theorem oW.icmp_ne (K : oK p s m meth c Z own by0 ml ret nm) {o : Int} {x y : Int32} {pc3 : Nat} (hd : decode by0 pc = .ok (.if_icmp .ne o, 3)) (ho : 0 ≤ (pc : Int) + o) (hp : ((pc : Int) + o).toNat = pc') (h3 : pc + 3 = pc3) (hy : ¬ x = y → oW p l e R s m args below meth c Z h0 P ds cells slots pc' Ls S) (hn : x = y → oW p l e R s m args below meth c Z h0 P ds cells slots pc3 Ls S) : oW p l e R s m args below meth c Z h0 P ds cells slots pc Ls (.int y :: .int x :: S) :=
  oW.icc K hd ho hp h3 (fun q => hy (oH_ne.1 q)) (fun q => hn (oH_ne.2 q))
theorem oW.ifnullNo (K : oK p s m meth c Z own by0 ml ret nm) {o : Int} {b : Addr} (hd : decode by0 pc = .ok (.ifnull o, 3)) (hp : pc + 3 = pc') (hr : oW p l e R s m args below meth c Z h0 P ds cells slots pc' Ls S) : oW p l e R s m args below meth c Z h0 P ds cells slots pc Ls (.ref b :: S) := by
  subst hp
  exact oW.pure (fun T locs X t k => XS.ifnullNo X.here K.1.1 rfl (hb K.1.2.2.1 hd) rfl k) hr
theorem oW.ifnullYes (K : oK p s m meth c Z own by0 ml ret nm) {o : Int} (hd : decode by0 pc = .ok (.ifnull o, 3)) (ho : 0 ≤ (pc : Int) + o) (hp : ((pc : Int) + o).toNat = pc') (hr : oW p l e R s m args below meth c Z h0 P ds cells slots pc' Ls S) : oW p l e R s m args below meth c Z h0 P ds cells slots pc Ls (.null :: S) :=
  oW.pure (fun T locs X t k => XS.ifnullYes X.here K.1.1 rfl rfl (hb K.1.2.2.1 hd) rfl ho hp k) hr
theorem oW.ifnonnullYes (K : oK p s m meth c Z own by0 ml ret nm) {o : Int} {b : Addr} (hd : decode by0 pc = .ok (.ifnonnull o, 3)) (ho : 0 ≤ (pc : Int) + o) (hp : ((pc : Int) + o).toNat = pc') (hr : oW p l e R s m args below meth c Z h0 P ds cells slots pc' Ls S) : oW p l e R s m args below meth c Z h0 P ds cells slots pc Ls (.ref b :: S) :=
  oW.pure (fun T locs X t k => XT.ifnonnullYes X.here K.1.1 rfl rfl (hb K.1.2.2.1 hd) rfl ho hp k) hr
theorem oW.ldcI (K : oK p s m meth c Z own by0 ml ret nm) {index : Nat} {v : Int32} (w : (Jvm.Cond.constant own index v).before a0 Z = true) (hd : decode by0 pc = .ok (.ldc index, 2)) (hp : pc + 2 = pc') (hr : oW p l e R s m args below meth c Z h0 P ds cells slots pc' Ls (.int v :: S)) : oW p l e R s m args below meth c Z h0 P ds cells slots pc Ls S := by
  subst hp
  exact oW.pure (fun T locs X t k => X.ldcInt K.1.1 K.2.1 (mv K.1.2.1 w) (g := mkF m pc Ls S) rfl (hb K.1.2.2.1 hd) t k) hr
theorem oW.ldc2D (K : oK p s m meth c Z own by0 ml ret nm) {index : Nat} {v : UInt64} (w : (Jvm.Cond.constantDouble own index v).before a0 Z = true) (hd : decode by0 pc = .ok (.ldc2_w index, 3)) (hp : pc + 3 = pc') (hr : oW p l e R s m args below meth c Z h0 P ds cells slots pc' Ls (.double v :: S)) : oW p l e R s m args below meth c Z h0 P ds cells slots pc Ls S := by
  subst hp
  exact oW.pure (fun T locs X t k => X.ldc2DoubleC K.1.1 K.2.1 (mv K.1.2.1 w) (g := mkF m pc Ls S) rfl (hb K.1.2.2.1 hd) t k) hr
theorem oW.ldc2L (K : oK p s m meth c Z own by0 ml ret nm) {index : Nat} {v : Int64} (w : (Jvm.Cond.constantLong own index v).before a0 Z = true) (hd : decode by0 pc = .ok (.ldc2_w index, 3)) (hp : pc + 3 = pc') (hr : oW p l e R s m args below meth c Z h0 P ds cells slots pc' Ls (.long v :: S)) : oW p l e R s m args below meth c Z h0 P ds cells slots pc Ls S := by
  subst hp
  exact oW.pure (fun T locs X t k => X.ldc2Long K.1.1 K.2.1 (mv K.1.2.1 w) (g := mkF m pc Ls S) rfl (hb K.1.2.2.1 hd) t k) hr
theorem oLen {vs : List Value} {j : Int32} {k : Nat} {v : Value} {c : Cell} (hj : j = Int32.ofNat k) (hk : k < 2 ^ 31) (hv : vs[k]? = some v) (hs : c.slots = vs.toArray) : ¬ (j < 0 ∨ c.slots.size ≤ j.toNatClampNeg) ∧ c.slots[j.toNatClampNeg]? = some v := by
  subst hj
  have e : (Int32.ofNat k).toNatClampNeg = k := Int32.toNatClampNeg_ofNat_of_lt hk
  have l := (List.getElem?_eq_some_iff.mp hv).1
  rw [e, hs]
  refine ⟨fun q => q.elim (Int32.ofNat_not_neg hk) (fun r => by simp at r; omega), by simpa using hv⟩
theorem oW.iaload (K : oK p s m meth c Z own by0 ml ret nm) {i k : Nat} {a : Addr} {vs : List Value} {j : Int32} {v : Value} (hd : decode by0 pc = .ok (.iaload, 1)) (hi : ds[i]? = some (a, .inl (.int, vs))) (hj : j = Int32.ofNat k) (hk : k < 2 ^ 31) (hv : vs[k]? = some v) (hp : pc + 1 = pc') (hr : oW p l e R s m args below meth c Z h0 P ds cells slots pc' Ls (v :: S)) : oW p l e R s m args below meth c Z h0 P ds cells slots pc Ls (.int j :: .ref a :: S) := by
  subst hp
  rintro T ⟨locs, X, N, M⟩
  obtain ⟨cl, A, hs⟩ := (M.2.2 i _ hi).2
  obtain ⟨q1, q2⟩ := oLen hj hk hv hs
  exact oW.ends (fun t k => X.iaload K.1.1 A.1 (State.isArrayOf_alike K.1.2.1.alike A.2.1) A.2.2 q1 q2 (g := mkF m pc Ls (.int j :: .ref a :: S)) rfl rfl (hb K.1.2.2.1 hd) t k) (hr T ⟨locs, X, N, M⟩)
theorem oW.daload (K : oK p s m meth c Z own by0 ml ret nm) {i k : Nat} {a : Addr} {vs : List Value} {j : Int32} {v : Value} (hd : decode by0 pc = .ok (.daload, 1)) (hi : ds[i]? = some (a, .inl (.double, vs))) (hj : j = Int32.ofNat k) (hk : k < 2 ^ 31) (hv : vs[k]? = some v) (hp : pc + 1 = pc') (hr : oW p l e R s m args below meth c Z h0 P ds cells slots pc' Ls (v :: S)) : oW p l e R s m args below meth c Z h0 P ds cells slots pc Ls (.int j :: .ref a :: S) := by
  subst hp
  rintro T ⟨locs, X, N, M⟩
  obtain ⟨cl, A, hs⟩ := (M.2.2 i _ hi).2
  obtain ⟨q1, q2⟩ := oLen hj hk hv hs
  exact oW.ends (fun t k => X.daload K.1.1 A.1 (State.isArrayOf_alike K.1.2.1.alike A.2.1) A.2.2 q1 q2 (g := mkF m pc Ls (.int j :: .ref a :: S)) rfl rfl (hb K.1.2.2.1 hd) t k) (hr T ⟨locs, X, N, M⟩)
theorem oW.laload (K : oK p s m meth c Z own by0 ml ret nm) {i k : Nat} {a : Addr} {vs : List Value} {j : Int32} {v : Value} (hd : decode by0 pc = .ok (.laload, 1)) (hi : ds[i]? = some (a, .inl (.long, vs))) (hj : j = Int32.ofNat k) (hk : k < 2 ^ 31) (hv : vs[k]? = some v) (hp : pc + 1 = pc') (hr : oW p l e R s m args below meth c Z h0 P ds cells slots pc' Ls (v :: S)) : oW p l e R s m args below meth c Z h0 P ds cells slots pc Ls (.int j :: .ref a :: S) := by
  subst hp
  rintro T ⟨locs, X, N, M⟩
  obtain ⟨cl, A, hs⟩ := (M.2.2 i _ hi).2
  obtain ⟨q1, q2⟩ := oLen hj hk hv hs
  exact oW.ends (fun t k => X.laload K.1.1 A.1 (State.isArrayOf_alike K.1.2.1.alike A.2.1) A.2.2 q1 q2 (g := mkF m pc Ls (.int j :: .ref a :: S)) rfl rfl (hb K.1.2.2.1 hd) t k) (hr T ⟨locs, X, N, M⟩)
theorem oW.iastore (K : oK p s m meth c Z own by0 ml ret nm) {i k : Nat} {a : Addr} {vs : List Value} {j : Int32} {x : Int32} (hd : decode by0 pc = .ok (.iastore, 1)) (hi : ds[i]? = some (a, .inl (.int, vs))) (hj : j = Int32.ofNat k) (hk : k < 2 ^ 31) (hl : k < vs.length) (hds : ds.set i (a, .inl (.int, vs.set k (.int x))) = ds') (hp : pc + 1 = pc') (hr : oW p l e R s m args below meth c Z h0 P ds' cells slots pc' Ls S) : oW p l e R s m args below meth c Z h0 P ds cells slots pc Ls (.int x :: .int j :: .ref a :: S) := by
  subst hp hds
  rintro T ⟨locs, X, N, M⟩
  obtain ⟨ha, cl, A, hs⟩ := M.2.2 i _ hi
  obtain ⟨q1, q2⟩ := oLen hj hk (List.getElem?_eq_getElem hl) hs
  obtain ⟨T', h', X', e', Wr', st⟩ := stI X K.1.1 K.1.2.1 rfl A (x := x) q1 (g := mkF m pc Ls (.int x :: .int j :: .ref a :: S)) rfl rfl (hb K.1.2.2.1 hd)
  have ek : j.toNatClampNeg = k := by subst hj; exact Int32.toNatClampNeg_ofNat_of_lt hk
  refine oW.ends st (hr T' ⟨_, X', Fr.snoc X' N ha, ?_⟩)
  rw [e']
  refine M.put hi Wr' ⟨_, A.same Wr', ?_⟩
  rw [ek]; simp [Cell.setSlot, hs]
theorem oW.dastore (K : oK p s m meth c Z own by0 ml ret nm) {i k : Nat} {a : Addr} {vs : List Value} {j : Int32} {x : UInt64} (hd : decode by0 pc = .ok (.dastore, 1)) (hi : ds[i]? = some (a, .inl (.double, vs))) (hj : j = Int32.ofNat k) (hk : k < 2 ^ 31) (hl : k < vs.length) (hds : ds.set i (a, .inl (.double, vs.set k (.double x))) = ds') (hp : pc + 1 = pc') (hr : oW p l e R s m args below meth c Z h0 P ds' cells slots pc' Ls S) : oW p l e R s m args below meth c Z h0 P ds cells slots pc Ls (.double x :: .int j :: .ref a :: S) := by
  subst hp hds
  rintro T ⟨locs, X, N, M⟩
  obtain ⟨ha, cl, A, hs⟩ := M.2.2 i _ hi
  obtain ⟨q1, q2⟩ := oLen hj hk (List.getElem?_eq_getElem hl) hs
  obtain ⟨T', h', X', e', Wr', st⟩ := stD X K.1.1 K.1.2.1 rfl A (x := x) q1 (g := mkF m pc Ls (.double x :: .int j :: .ref a :: S)) rfl rfl (hb K.1.2.2.1 hd)
  have ek : j.toNatClampNeg = k := by subst hj; exact Int32.toNatClampNeg_ofNat_of_lt hk
  refine oW.ends st (hr T' ⟨_, X', Fr.snoc X' N ha, ?_⟩)
  rw [e']
  refine M.put hi Wr' ⟨_, A.same Wr', ?_⟩
  rw [ek]; simp [Cell.setSlot, hs]
theorem oW.lastore (K : oK p s m meth c Z own by0 ml ret nm) {i k : Nat} {a : Addr} {vs : List Value} {j : Int32} {x : Int64} (hd : decode by0 pc = .ok (.lastore, 1)) (hi : ds[i]? = some (a, .inl (.long, vs))) (hj : j = Int32.ofNat k) (hk : k < 2 ^ 31) (hl : k < vs.length) (hds : ds.set i (a, .inl (.long, vs.set k (.long x))) = ds') (hp : pc + 1 = pc') (hr : oW p l e R s m args below meth c Z h0 P ds' cells slots pc' Ls S) : oW p l e R s m args below meth c Z h0 P ds cells slots pc Ls (.long x :: .int j :: .ref a :: S) := by
  subst hp hds
  rintro T ⟨locs, X, N, M⟩
  obtain ⟨ha, cl, A, hs⟩ := M.2.2 i _ hi
  obtain ⟨q1, q2⟩ := oLen hj hk (List.getElem?_eq_getElem hl) hs
  obtain ⟨T', h', X', e', Wr', st⟩ := stJ X K.1.1 K.1.2.1 rfl A (x := x) q1 (g := mkF m pc Ls (.long x :: .int j :: .ref a :: S)) rfl rfl (hb K.1.2.2.1 hd)
  have ek : j.toNatClampNeg = k := by subst hj; exact Int32.toNatClampNeg_ofNat_of_lt hk
  refine oW.ends st (hr T' ⟨_, X', Fr.snoc X' N ha, ?_⟩)
  rw [e']
  refine M.put hi Wr' ⟨_, A.same Wr', ?_⟩
  rw [ek]; simp [Cell.setSlot, hs]
theorem oW.alen (K : oK p s m meth c Z own by0 ml ret nm) {i : Nat} {a : Addr} {ty : FieldType} {vs : List Value} {v : Int32} (hd : decode by0 pc = .ok (.arraylength, 1)) (hi : ds[i]? = some (a, .inl (ty, vs))) (hv : v = Int32.ofNat vs.length) (hp : pc + 1 = pc') (hr : oW p l e R s m args below meth c Z h0 P ds cells slots pc' Ls (.int v :: S)) : oW p l e R s m args below meth c Z h0 P ds cells slots pc Ls (.ref a :: S) := by
  subst hp
  rintro T ⟨locs, X, N, M⟩
  obtain ⟨cl, A, hs⟩ := (M.2.2 i _ hi).2
  have ev : v = cl.slots.size.toInt32 := by rw [hv, hs]; simp
  subst ev
  exact oW.ends (fun t k => X.arraylength K.1.1 A.1 (State.isArrayOf_alike K.1.2.1.alike A.2.1) (g := mkF m pc Ls (.ref a :: S)) rfl rfl (hb K.1.2.2.1 hd) t k) (hr T ⟨locs, X, N, M⟩)
theorem oW.newarr (K : oK p s m meth c Z own by0 ml ret nm) {aty : ArrayType} {j : Int32} {n : Nat} (w : (Jvm.Cond.arrayClass (newarray.typeOf aty)).before a0 Z = true) (hd : decode by0 pc = .ok (.newarray aty, 2)) (hj : j = Int32.ofNat n) (hn : n < 2 ^ 31) (hb8 : n * 8 ≤ 536870912) (hc : cells + 1 ≤ R.cells) (hs : slots + n ≤ R.slots) {cells' slots' : Nat} (hc' : cells + 1 = cells') (hs' : slots + n = slots') {dsf : Addr → oDs} (hds : ∀ a, ds ++ [(a, .inl (newarray.typeOf aty, List.replicate n (defaultValue (newarray.typeOf aty))))] = dsf a) (hp : pc + 2 = pc')
    (hr : ∀ a : Addr, h0.size ≤ a → oW p l e R s m args below meth c Z h0 P (dsf a) cells' slots' pc' Ls (.ref a :: S)) : oW p l e R s m args below meth c Z h0 P ds cells slots pc Ls (.int j :: S) := by
  subst hp hc' hs'
  rintro T ⟨locs, X, N, M⟩
  have ej : j.toNatClampNeg = n := by subst hj; exact Int32.toNatClampNeg_ofNat_of_lt hn
  obtain ⟨T', h', k, X', e', E', A', st⟩ := newP X K.1.1 K.1.2.1 w rfl (g := mkF m pc Ls (.int j :: S)) rfl (hb K.1.2.2.1 hd) rfl (by subst hj; exact Int32.ofNat_not_neg hn) (cap := n) (Nat.le_of_eq ej) hb8 hc hs
  refine oW.ends st (hr T.heap.size M.1.1 T' ⟨_, X', N, ?_⟩)
  rw [e', ← hds]
  refine M.push E' ⟨_, A', ?_⟩
  simp [newA, ej]
theorem oW.new (K : oK p s m meth c Z own by0 ml ret nm) {index n : Nat} {C : String} {fs : List (String × String × String × Value)} (w : (Jvm.Cond.classLink own index C).before a0 Z = true) (wi : (Jvm.Cond.instantiable C n).before a0 Z = true) (wz : (Jvm.Cond.initialized C).before a0 Z = true) (hL : ∀ f ∈ fs, Laid Z a0 C f.1 f.2.1 f.2.2.1 ∧ ∃ t, parseFieldDescriptor f.2.2.1 = some t ∧ f.2.2.2 = defaultValue t) (hd : decode by0 pc = .ok (.new index, 3)) (hc : cells + 1 ≤ R.cells) (hs : slots + n ≤ R.slots) {cells' slots' : Nat} (hc' : cells + 1 = cells') (hs' : slots + n = slots') {dsf : Addr → oDs} (hds : ∀ a, ds ++ [(a, .inr (C, fs))] = dsf a) (hp : pc + 3 = pc')
    (hr : ∀ a : Addr, h0.size ≤ a → oW p l e R s m args below meth c Z h0 P (dsf a) cells' slots' pc' Ls (.ref a :: S)) : oW p l e R s m args below meth c Z h0 P ds cells slots pc Ls S := by
  subst hp hc' hs'
  rintro T ⟨locs, X, N, M⟩
  obtain ⟨T', h', X', e', E', A', D', -, st⟩ := newO X K.1.1 K.1.2.1 K.2.1 w wi wz rfl (g := mkF m pc Ls S) rfl (hb K.1.2.2.1 hd) hc hs
  refine oW.ends st (hr T.heap.size M.1.1 T' ⟨_, X', N, ?_⟩)
  rw [e', ← hds]
  refine M.push E' ⟨A', fun f hf => ?_⟩
  obtain ⟨L, t, h1, h2⟩ := hL f hf
  rw [h2]; exact D' L h1
theorem oW.getf (K : oK p s m meth c Z own by0 ml ret nm) {index i q : Nat} {a : Addr} {C O n d : String} {fs : List (String × String × String × Value)} {v : Value} (w : (Jvm.Cond.fieldLink own index O n d).before a0 Z = true) (hd : decode by0 pc = .ok (.getfield index, 3)) (hi : ds[i]? = some (a, .inr (C, fs))) (hf : fs[q]? = some (O, n, d, v)) (hp : pc + 3 = pc') (hr : oW p l e R s m args below meth c Z h0 P ds cells slots pc' Ls (v :: S)) : oW p l e R s m args below meth c Z h0 P ds cells slots pc Ls (.ref a :: S) := by
  subst hp
  rintro T ⟨locs, X, N, M⟩
  obtain ⟨ha, hE, hF⟩ := M.2.2 i _ hi
  obtain ⟨T', X', e', st⟩ := getF X K.1.1 K.1.2.1 K.2.1 (host := "") (Or.inl w) Via.refl rfl (hF _ (List.mem_of_getElem? hf)) (g := mkF m pc Ls (.ref a :: S)) rfl rfl (hb K.1.2.2.1 hd)
  exact oW.ends st (hr T' ⟨_, X', N, by rw [e']; exact M⟩)
theorem oW.putf (K : oK p s m meth c Z own by0 ml ret nm) {index i q kk : Nat} {a : Addr} {C O n d : String} {fs : List (String × String × String × Value)} {v old : Value} {ty : FieldType} (w : (Jvm.Cond.fieldLink own index O n d).before a0 Z = true) (L : (Jvm.Cond.lays C O n d).before a0 Z = true ∨ ((Jvm.Cond.laysFinal C O n d).before a0 Z = true ∧ own = O ∧ nm = "<init>")) (wi : (Jvm.Cond.instantiable C kk).before a0 Z = true) (hap : oApart Z fs) (hd : decode by0 pc = .ok (.putfield index, 3)) (hi : ds[i]? = some (a, .inr (C, fs))) (hf : fs[q]? = some (O, n, d, old)) (hty : parseFieldDescriptor d = some ty) (hn : narrow ty v = v) (hfit : fits ty v = true) (hds : ds.set i (a, .inr (C, fs.set q (O, n, d, v))) = ds') (hp : pc + 3 = pc') (hr : oW p l e R s m args below meth c Z h0 P ds' cells slots pc' Ls S) : oW p l e R s m args below meth c Z h0 P ds cells slots pc Ls (v :: .ref a :: S) := by
  subst hp hds
  rintro T ⟨locs, X, N, M⟩
  obtain ⟨ha, hE, hF⟩ := M.2.2 i _ hi
  have hFq := hF _ (List.mem_of_getElem? hf)
  obtain ⟨T', h', X', e', Wr', st⟩ := putF X K.1.1 K.1.2.1 K.2.1 (host := "") (Or.inl w) Via.refl rfl hFq hE (L.imp id fun r => ⟨r.1, r.2.1, K.2.2.2.2.trans r.2.2⟩) wi hty hn hfit (g := mkF m pc Ls (v :: .ref a :: S)) rfl rfl (hb K.1.2.2.1 hd)
  refine oW.ends st (hr T' ⟨_, X', Fr.snoc X' N ha, ?_⟩)
  rw [e']
  refine M.put hi Wr' ⟨hE.wr Wr', fun f hf' => ?_⟩
  obtain ⟨r, hr'⟩ := List.getElem?_of_mem hf'
  rw [List.getElem?_set] at hr'
  split at hr'
  · rename_i er
    subst er
    rw [if_pos (List.getElem?_eq_some_iff.mp hf).1] at hr'
    cases hr'
    exact hFq.same Wr'
  · rename_i er
    have hh := hap r q f (O, n, d, old) (Ne.symm er) hr' hf
    exact (hF f (List.mem_of_getElem? hr')).other Wr' (Or.inr hh)
theorem oW.getst (K : oK p s m meth c Z own by0 ml ret nm) {index : Nat} {O n d : String} {v : Value} (w : (Jvm.Cond.fieldLink own index O n d).before a0 Z = true) (F : Sta Z h0 O n d v) (hd : decode by0 pc = .ok (.getstatic index, 3)) (hp : pc + 3 = pc') (hr : oW p l e R s m args below meth c Z h0 P ds cells slots pc' Ls (v :: S)) : oW p l e R s m args below meth c Z h0 P ds cells slots pc Ls S := by
  subst hp
  rintro T ⟨locs, X, N, M⟩
  obtain ⟨T', X', e', st⟩ := getS2 X K.1.1 K.1.2.1 K.2.1 (host := "") (Or.inl w) Via.refl rfl (F.ext M.1) (g := mkF m pc Ls S) rfl (hb K.1.2.2.1 hd)
  exact oW.ends st (hr T' ⟨_, X', N, by rw [e']; exact M⟩)
theorem oW.initO (K : oK p s m meth c Z own by0 ml ret nm) {idx : Nat} {a : Addr} {W : Nat} (w1 : (Jvm.Cond.methodLink own idx Lib.objectInit).before a0 Z = true) (w2 : (Jvm.Cond.instanceMethod Lib.objectInit).before a0 Z = true) (w3 : (Jvm.Cond.code Lib.objectInit ⟨#[0xb1]⟩ 1 none).before a0 Z = true) (hd : decode by0 pc = .ok (.invokespecial idx, 3)) (hsz : Ls.size = ml) (hf : 1 ≤ R.frames) (hW : (S.map fun v => v.category).sum ≤ W) (hl : W + 12 ≤ R.locals) (hp : pc + 3 = pc') (hr : oW p l e R s m args below meth c Z h0 P ds cells slots pc' Ls S) : oW p l e R s m args below meth c Z h0 P ds cells slots pc Ls (.ref a :: S) := by
  subst hp
  rintro T ⟨locs, X, N, M⟩
  obtain ⟨T', X', e', st⟩ := Jvm.RoadKit.initO X K.1.1 K.1.2.1 K.2.1 w1 w2 w3 rfl (g := mkF m pc Ls (.ref a :: S)) rfl (hsz.trans K.1.2.2.2.symm) rfl (hb K.1.2.2.1 hd) hf (W := W) (by show 2 * 0 + _ ≤ _; omega) hl
  exact oW.ends st (hr T' ⟨_, X', N, by rw [e']; exact M⟩)
theorem oW.leave (K : oK p s m meth c Z own by0 ml ret nm) {v : Option Value} (hv : ret = none → v = none) (hc : cells ≤ R.cells) (hs : slots ≤ R.slots) (hP : P v ds)
    (st : ∀ (T : State) (locs : List Loc) (fs : List Frame), Stand p l e R s m args below meth c T locs cells slots → (∀ (f : JFrame) (acts : List Action), f.method = m → f.locked = none → f.entered = [] → (doReturn e (T.setTop f) acts v).1 = T.setFrames fs) → Steps p.tables e below (T.setTop (mkF m pc Ls S)) (T.setFrames fs)) : oW p l e R s m args below meth c Z h0 P ds cells slots pc Ls S := by
  rintro T ⟨locs, X, N, M⟩
  obtain ⟨fs, hr, hrun, hended, hW, hsame⟩ := X.leave (v := v) (fun h => hv (K.2.2.1.symm.trans h)) K.2.2.2.1
  exact ⟨_, _, st T locs fs X hr, hrun, hended, v, locs, rfl, ⟨N, ds, hP, M⟩, ⟨_, rfl⟩, hW, hsame.mono hc hs⟩
theorem oW.retB (K : oK p s m meth c Z own by0 ml ret nm) {z : Int32} (hret : ret = some .boolean) (hd : decode by0 pc = .ok (.ireturn, 1)) (hc : cells ≤ R.cells) (hs : slots ≤ R.slots) (hP : P (some (.int (nar .boolean z))) ds) : oW p l e R s m args below meth c Z h0 P ds cells slots pc Ls (.int z :: S) :=
  oW.leave K (by rw [hret]; intro h; cases h) hc hs hP fun T locs fs X hr => retN X K.1.1 (t := .boolean) (K.2.2.1.trans hret) (Or.inl rfl) (hb K.1.2.2.1 hd) hr
theorem oW.retI (K : oK p s m meth c Z own by0 ml ret nm) {z : Int32} (hret : ret = some .int) (hd : decode by0 pc = .ok (.ireturn, 1)) (hc : cells ≤ R.cells) (hs : slots ≤ R.slots) (hP : P (some (.int z)) ds) : oW p l e R s m args below meth c Z h0 P ds cells slots pc Ls (.int z :: S) :=
  oW.leave K (by rw [hret]; intro h; cases h) hc hs hP fun T locs fs X hr => retOut X K.1.1 (K.2.2.1.trans hret) rfl (Or.inl ⟨rfl, Or.inl rfl, _, rfl⟩) (hb K.1.2.2.1 hd) hr
theorem oW.retJ (K : oK p s m meth c Z own by0 ml ret nm) {z : Int64} (hret : ret = some .long) (hd : decode by0 pc = .ok (.lreturn, 1)) (hc : cells ≤ R.cells) (hs : slots ≤ R.slots) (hP : P (some (.long z)) ds) : oW p l e R s m args below meth c Z h0 P ds cells slots pc Ls (.long z :: S) :=
  oW.leave K (by rw [hret]; intro h; cases h) hc hs hP fun T locs fs X hr => retOut X K.1.1 (K.2.2.1.trans hret) rfl (Or.inr (Or.inl ⟨rfl, rfl, _, rfl⟩)) (hb K.1.2.2.1 hd) hr
theorem oW.retD (K : oK p s m meth c Z own by0 ml ret nm) {z : UInt64} (hret : ret = some .double) (hd : decode by0 pc = .ok (.dreturn, 1)) (hc : cells ≤ R.cells) (hs : slots ≤ R.slots) (hP : P (some (.double z)) ds) : oW p l e R s m args below meth c Z h0 P ds cells slots pc Ls (.double z :: S) :=
  oW.leave K (by rw [hret]; intro h; cases h) hc hs hP fun T locs fs X hr => retOut X K.1.1 (K.2.2.1.trans hret) rfl (Or.inr (Or.inr (Or.inl ⟨rfl, rfl, _, rfl⟩))) (hb K.1.2.2.1 hd) hr
theorem oW.retA (K : oK p s m meth c Z own by0 ml ret nm) {a : Addr} {t : FieldType} (hret : ret = some t) (ht : t.isReference = true) (hn : narrow t (.ref a) = .ref a) (hd : decode by0 pc = .ok (.areturn, 1)) (hc : cells ≤ R.cells) (hs : slots ≤ R.slots) (hP : P (some (.ref a)) ds) : oW p l e R s m args below meth c Z h0 P ds cells slots pc Ls (.ref a :: S) :=
  oW.leave K (by rw [hret]; intro h; cases h) hc hs hP fun T locs fs X hr => retOut X K.1.1 (K.2.2.1.trans hret) hn (Or.inr (Or.inr (Or.inr (Or.inr ⟨rfl, ht, rfl⟩)))) (hb K.1.2.2.1 hd) hr
theorem oW.retV (K : oK p s m meth c Z own by0 ml ret nm) (hret : ret = none) (hd : decode by0 pc = .ok (.return_, 1)) (hc : cells ≤ R.cells) (hs : slots ≤ R.slots) (hP : P none ds) : oW p l e R s m args below meth c Z h0 P ds cells slots pc Ls [] :=
  oW.leave K (fun _ => rfl) hc hs hP fun T locs fs X hr => X.returnOut K.1.1 (K.2.2.1.trans hret) (hb K.1.2.2.1 hd) hr
theorem oW.callS (K : oK p s m meth c Z own by0 ml ret nm) {y : MethodName} {index : Nat} {by1 : ByteArray} {ml1 : Nat} {rt1 : Option FieldType} {rm : Room} {argsL : List Value} {P2 : Value → oDs → Prop} {W : Nat} {cells' slots' : Nat}
    (w1 : (Jvm.Cond.methodLink own index y).before a0 Z = true) (w2 : (Jvm.Cond.static y).before a0 Z = true) (w3 : (Jvm.Cond.initialized y.cls).before a0 Z = true) (w4 : (Jvm.Cond.code y by1 ml1 rt1).before a0 Z = true) (hy : y.cls ≠ "java/lang/invoke/MethodHandle" ∧ y.cls ≠ "java/lang/invoke/VarHandle")
    (C : oCtr l Z h0 [] y by1 ml1 rt1 rm argsL.toArray ds (oVal P2)) (hlen : ∀ sig, parseMethodDescriptor y.desc = some sig → argsL.length = sig.parameters.length) (hd : decode by0 pc = .ok (.invokestatic index, 3)) (hst : S' = argsL.reverse ++ S) (hsz : Ls.size = ml) (hW : (S.map fun v => v.category).sum ≤ W) (hf : rm.frames + 1 ≤ R.frames) (hl : W + (ml1 + 11) + rm.locals ≤ R.locals) (hc : cells + rm.cells ≤ R.cells) (hs : slots + rm.slots ≤ R.slots) (hc' : cells + rm.cells = cells') (hs' : slots + rm.slots = slots') (hp : pc + 3 = pc')
    (hr : ∀ w ds', P2 w ds' → oW p l e R s m args below meth c Z h0 P ds' cells' slots' pc' Ls (w :: S)) : oW p l e R s m args below meth c Z h0 P ds cells slots pc Ls S' := by
  subst hp hst hc' hs'
  rintro T ⟨locs, X, N, M⟩
  obtain ⟨v, vm1, ⟨T', L', k', n'⟩, -, X', ⟨Lc, hQ, l', y', z'⟩, st⟩ := Jvm.LawKit.callS X K.1.1 K.2.1 (mvT K.1.2.1 w1) (mvT K.1.2.1 w2) (mvT K.1.2.1 w3) (mvT K.1.2.1 w4) hy (backOf (W := W) (Q := fun v hp L => Fr h0.size L ∧ ∃ ds', (oVal P2) v ds' ∧ oMem Z h0 hp ds') (C T.heap M) K.1.2.1 w4 w3 hf hl) (g := mkF m pc Ls (argsL.reverse ++ S)) rfl (hsz.trans K.1.2.2.2.symm) (argsL := argsL) (rest := S) hlen rfl (by show 2 * 0 + _ ≤ _; omega) (hb K.1.2.2.1 hd) (fun _ _ => ⟨rfl, rfl, hc, hs⟩)
  dsimp only [Pt.U, Pt.locs, Pt.cells, Pt.slots] at X' l' y' z' st hQ
  subst l' y' z'
  obtain ⟨N', ds', hP, M'⟩ := hQ
  obtain ⟨w, rfl, hP⟩ := hP
  exact oW.ends st (hr w ds' hP T' ⟨_, X', N.app N', M'⟩)
theorem oW.callV (K : oK p s m meth c Z own by0 ml ret nm) {y z : MethodName} {C : String} {index : Nat} {by1 : ByteArray} {ml1 : Nat} {rt1 : Option FieldType} {rm : Room} {a : Addr} {argsL : List Value} {P2 : Value → oDs → Prop} {W : Nat} {cells' slots' : Nat}
    (w1 : (Jvm.Cond.methodLink own index y).before a0 Z = true) (w2 : (Jvm.Cond.declares y).before a0 Z = true) (w3 : (Jvm.Cond.selects C y z).before a0 Z = true) (w4 : (Jvm.Cond.instanceMethod z).before a0 Z = true) (w5 : (Jvm.Cond.code z by1 ml1 rt1).before a0 Z = true) (w6 : (Jvm.Cond.initialized z.cls).before a0 Z = true) (hy : y.cls ≠ "java/lang/invoke/MethodHandle" ∧ y.cls ≠ "java/lang/invoke/VarHandle")
    (hnf : ∀ s : State, Z.Warmed39 s.vm → NotFace s y) (hE : ∀ h, oMem Z h0 h ds → Exa Z h a C) (Ct : oCtr l Z h0 [] z by1 ml1 rt1 rm (.ref a :: argsL).toArray ds (oVal P2)) (hlen : ∀ sig, parseMethodDescriptor y.desc = some sig → argsL.length = sig.parameters.length) (hd : decode by0 pc = .ok (.invokevirtual index, 3)) (hst : S' = argsL.reverse ++ .ref a :: S) (hsz : Ls.size = ml) (hW : (S.map fun v => v.category).sum ≤ W) (hf : rm.frames + 1 ≤ R.frames) (hl : W + (ml1 + 11) + rm.locals ≤ R.locals) (hc : cells + rm.cells ≤ R.cells) (hs : slots + rm.slots ≤ R.slots) (hc' : cells + rm.cells = cells') (hs' : slots + rm.slots = slots') (hp : pc + 3 = pc')
    (hr : ∀ w ds', P2 w ds' → oW p l e R s m args below meth c Z h0 P ds' cells' slots' pc' Ls (w :: S)) : oW p l e R s m args below meth c Z h0 P ds cells slots pc Ls S' := by
  subst hp hst hc' hs'
  rintro T ⟨locs, X, N, M⟩
  obtain ⟨cq, kq, qa, qb, qc⟩ := isOf K.1.2.1 rfl (hE T.heap M)
  have w3' : (Jvm.Cond.selects C y z).before args s = true := mvT K.1.2.1 w3
  obtain ⟨v, vm1, ⟨T', L', k', n'⟩, -, X', ⟨Lc, hQ, l', y', z'⟩, st⟩ := X.virtualBack K.1.1 K.2.1 (mvT K.1.2.1 w1) (mvT K.1.2.1 w2) (hnf s K.1.2.1) w3' (mvT K.1.2.1 w4) hy (backOf (W := W) (Q := fun v hp L => Fr h0.size L ∧ ∃ ds', (oVal P2) v ds' ∧ oMem Z h0 hp ds') (Ct T.heap M) K.1.2.1 w5 w6 hf hl) qa qc (g := mkF m pc Ls (argsL.reverse ++ .ref a :: S)) rfl (hsz.trans K.1.2.2.2.symm) (Steps.refl _) (argsL := argsL) (rest := S) hlen rfl (by show 2 * 0 + _ ≤ _; omega) (hb K.1.2.2.1 hd) (fun _ _ => ⟨rfl, rfl, hc, hs⟩)
  dsimp only [Pt.U, Pt.locs, Pt.cells, Pt.slots] at X' l' y' z' st hQ
  subst l' y' z'
  obtain ⟨N', ds', hP, M'⟩ := hQ
  obtain ⟨w, rfl, hP⟩ := hP
  exact oW.ends (fun t k => st.trans k) (hr w ds' hP T' ⟨_, X', N.app N', M'⟩)
theorem oW.callS0 (K : oK p s m meth c Z own by0 ml ret nm) {y : MethodName} {index : Nat} {by1 : ByteArray} {ml1 : Nat} {rt1 : Option FieldType} {rm : Room} {argsL : List Value} {P2 : oDs → Prop} {W : Nat} {cells' slots' : Nat}
    (w1 : (Jvm.Cond.methodLink own index y).before a0 Z = true) (w2 : (Jvm.Cond.static y).before a0 Z = true) (w3 : (Jvm.Cond.initialized y.cls).before a0 Z = true) (w4 : (Jvm.Cond.code y by1 ml1 rt1).before a0 Z = true) (hy : y.cls ≠ "java/lang/invoke/MethodHandle" ∧ y.cls ≠ "java/lang/invoke/VarHandle")
    (C : oCtr l Z h0 [] y by1 ml1 rt1 rm argsL.toArray ds (oVoid P2)) (hlen : ∀ sig, parseMethodDescriptor y.desc = some sig → argsL.length = sig.parameters.length) (hd : decode by0 pc = .ok (.invokestatic index, 3)) (hst : S' = argsL.reverse ++ S) (hsz : Ls.size = ml) (hW : (S.map fun v => v.category).sum ≤ W) (hf : rm.frames + 1 ≤ R.frames) (hl : W + (ml1 + 11) + rm.locals ≤ R.locals) (hc : cells + rm.cells ≤ R.cells) (hs : slots + rm.slots ≤ R.slots) (hc' : cells + rm.cells = cells') (hs' : slots + rm.slots = slots') (hp : pc + 3 = pc')
    (hr : ∀ ds', P2 ds' → oW p l e R s m args below meth c Z h0 P ds' cells' slots' pc' Ls S) : oW p l e R s m args below meth c Z h0 P ds cells slots pc Ls S' := by
  subst hp hst hc' hs'
  rintro T ⟨locs, X, N, M⟩
  obtain ⟨v, vm1, ⟨T', L', k', n'⟩, -, X', ⟨Lc, hQ, l', y', z'⟩, st⟩ := Jvm.LawKit.callS X K.1.1 K.2.1 (mvT K.1.2.1 w1) (mvT K.1.2.1 w2) (mvT K.1.2.1 w3) (mvT K.1.2.1 w4) hy (backOf (W := W) (Q := fun v hp L => Fr h0.size L ∧ ∃ ds', (oVoid P2) v ds' ∧ oMem Z h0 hp ds') (C T.heap M) K.1.2.1 w4 w3 hf hl) (g := mkF m pc Ls (argsL.reverse ++ S)) rfl (hsz.trans K.1.2.2.2.symm) (argsL := argsL) (rest := S) hlen rfl (by show 2 * 0 + _ ≤ _; omega) (hb K.1.2.2.1 hd) (fun _ _ => ⟨rfl, rfl, hc, hs⟩)
  dsimp only [Pt.U, Pt.locs, Pt.cells, Pt.slots] at X' l' y' z' st hQ
  subst l' y' z'
  obtain ⟨N', ds', hP, M'⟩ := hQ
  obtain ⟨rfl, hP⟩ := hP
  exact oW.ends st (hr ds' hP T' ⟨_, X', N.app N', M'⟩)
theorem oW.callI (K : oK p s m meth c Z own by0 ml ret nm) {y : MethodName} {index : Nat} {by1 : ByteArray} {ml1 : Nat} {rm : Room} {a : Addr} {argsL : List Value} {P2 : oDs → Prop} {W : Nat} {cells' slots' : Nat} (hin : y.name = "<init>")
    (w1 : (Jvm.Cond.methodLink own index y).before a0 Z = true) (w2 : (Jvm.Cond.instanceMethod y).before a0 Z = true) (w3 : (Jvm.Cond.initialized y.cls).before a0 Z = true) (w4 : (Jvm.Cond.code y by1 ml1 none).before a0 Z = true) (hy : y.cls ≠ "java/lang/invoke/MethodHandle" ∧ y.cls ≠ "java/lang/invoke/VarHandle")
    (C : oCtr l Z h0 [] y by1 ml1 none rm (.ref a :: argsL).toArray ds (oVoid P2)) (hlen : ∀ sig, parseMethodDescriptor y.desc = some sig → argsL.length = sig.parameters.length) (hd : decode by0 pc = .ok (.invokespecial index, 3)) (hst : S' = argsL.reverse ++ .ref a :: S) (hsz : Ls.size = ml) (hW : (S.map fun v => v.category).sum ≤ W) (hf : rm.frames + 1 ≤ R.frames) (hl : W + (ml1 + 11) + rm.locals ≤ R.locals) (hc : cells + rm.cells ≤ R.cells) (hs : slots + rm.slots ≤ R.slots) (hc' : cells + rm.cells = cells') (hs' : slots + rm.slots = slots') (hp : pc + 3 = pc')
    (hr : ∀ ds', P2 ds' → oW p l e R s m args below meth c Z h0 P ds' cells' slots' pc' Ls S) : oW p l e R s m args below meth c Z h0 P ds cells slots pc Ls S' := by
  subst hp hst hc' hs'
  rintro T ⟨locs, X, N, M⟩
  obtain ⟨v, vm1, ⟨T', L', k', n'⟩, -, X', ⟨Lc, hQ, l', y', z'⟩, st⟩ := X.specialBack K.1.1 hin K.2.1 (mvT K.1.2.1 w1) (mvT K.1.2.1 w2) (mvT K.1.2.1 w4) hy (backOf (W := W) (Q := fun v hp L => Fr h0.size L ∧ ∃ ds', (oVoid P2) v ds' ∧ oMem Z h0 hp ds') (C T.heap M) K.1.2.1 w4 w3 hf hl) (g := mkF m pc Ls (argsL.reverse ++ .ref a :: S)) rfl (hsz.trans K.1.2.2.2.symm) (Steps.refl _) (a := a) (argsL := argsL) (rest := S) hlen rfl (by show 2 * 0 + _ ≤ _; omega) (hb K.1.2.2.1 hd) (fun _ _ => ⟨rfl, rfl, hc, hs⟩)
  dsimp only [Pt.U, Pt.locs, Pt.cells, Pt.slots] at X' l' y' z' st hQ
  subst l' y' z'
  obtain ⟨N', ds', hP, M'⟩ := hQ
  obtain ⟨rfl, hP⟩ := hP
  exact oW.ends (fun t k => st.trans k) (hr ds' hP T' ⟨_, X', N.app N', M'⟩)
theorem oW.callV0 (K : oK p s m meth c Z own by0 ml ret nm) {y z : MethodName} {C : String} {index : Nat} {by1 : ByteArray} {ml1 : Nat} {rt1 : Option FieldType} {rm : Room} {a : Addr} {argsL : List Value} {P2 : oDs → Prop} {W : Nat} {cells' slots' : Nat}
    (w1 : (Jvm.Cond.methodLink own index y).before a0 Z = true) (w2 : (Jvm.Cond.declares y).before a0 Z = true) (w3 : (Jvm.Cond.selects C y z).before a0 Z = true) (w4 : (Jvm.Cond.instanceMethod z).before a0 Z = true) (w5 : (Jvm.Cond.code z by1 ml1 rt1).before a0 Z = true) (w6 : (Jvm.Cond.initialized z.cls).before a0 Z = true) (hy : y.cls ≠ "java/lang/invoke/MethodHandle" ∧ y.cls ≠ "java/lang/invoke/VarHandle")
    (hnf : ∀ s : State, Z.Warmed39 s.vm → NotFace s y) (hE : ∀ h, oMem Z h0 h ds → Exa Z h a C) (Ct : oCtr l Z h0 [] z by1 ml1 rt1 rm (.ref a :: argsL).toArray ds (oVoid P2)) (hlen : ∀ sig, parseMethodDescriptor y.desc = some sig → argsL.length = sig.parameters.length) (hd : decode by0 pc = .ok (.invokevirtual index, 3)) (hst : S' = argsL.reverse ++ .ref a :: S) (hsz : Ls.size = ml) (hW : (S.map fun v => v.category).sum ≤ W) (hf : rm.frames + 1 ≤ R.frames) (hl : W + (ml1 + 11) + rm.locals ≤ R.locals) (hc : cells + rm.cells ≤ R.cells) (hs : slots + rm.slots ≤ R.slots) (hc' : cells + rm.cells = cells') (hs' : slots + rm.slots = slots') (hp : pc + 3 = pc')
    (hr : ∀ ds', P2 ds' → oW p l e R s m args below meth c Z h0 P ds' cells' slots' pc' Ls S) : oW p l e R s m args below meth c Z h0 P ds cells slots pc Ls S' := by
  subst hp hst hc' hs'
  rintro T ⟨locs, X, N, M⟩
  obtain ⟨cq, kq, qa, qb, qc⟩ := isOf K.1.2.1 rfl (hE T.heap M)
  have w3' : (Jvm.Cond.selects C y z).before args s = true := mvT K.1.2.1 w3
  obtain ⟨v, vm1, ⟨T', L', k', n'⟩, -, X', ⟨Lc, hQ, l', y', z'⟩, st⟩ := X.virtualBack K.1.1 K.2.1 (mvT K.1.2.1 w1) (mvT K.1.2.1 w2) (hnf s K.1.2.1) w3' (mvT K.1.2.1 w4) hy (backOf (W := W) (Q := fun v hp L => Fr h0.size L ∧ ∃ ds', (oVoid P2) v ds' ∧ oMem Z h0 hp ds') (Ct T.heap M) K.1.2.1 w5 w6 hf hl) qa qc (g := mkF m pc Ls (argsL.reverse ++ .ref a :: S)) rfl (hsz.trans K.1.2.2.2.symm) (Steps.refl _) (argsL := argsL) (rest := S) hlen rfl (by show 2 * 0 + _ ≤ _; omega) (hb K.1.2.2.1 hd) (fun _ _ => ⟨rfl, rfl, hc, hs⟩)
  dsimp only [Pt.U, Pt.locs, Pt.cells, Pt.slots] at X' l' y' z' st hQ
  subst l' y' z'
  obtain ⟨N', ds', hP, M'⟩ := hQ
  obtain ⟨rfl, hP⟩ := hP
  exact oW.ends (fun t k => st.trans k) (hr ds' hP T' ⟨_, X', N.app N', M'⟩)
theorem oNF {C : String} {y : MethodName} (w : (Jvm.Cond.selects C y y).before a0 Z = true) : ∀ s : State, Z.Warmed39 s.vm → NotFace s y := fun s hZ => notFace_of_selects (args := #[]) (mvT hZ w)
theorem oMem.exa {h : Heap} {i : Nat} {a : Addr} {C : String} {fs : List (String × String × String × Value)} (hi : ds[i]? = some (a, .inr (C, fs))) (M : oMem Z h0 h ds) : Exa Z h a C := (M.2.2 i _ hi).2.1
end Steps
section Nums
open Jvm.FP Jvm.Free.Fl
theorem oN53 : (2 ^ 53 : Nat) = 9007199254740992 := by decide
theorem oTs : (0 : Int32).toInt = 0 ∧ (1 : Int32).toInt = 1 ∧ (2 : Int32).toInt = 2 ∧ (3 : Int32).toInt = 3 ∧ (4 : Int32).toInt = 4 ∧ (5 : Int32).toInt = 5 ∧ (6 : Int32).toInt = 6 ∧ (7 : Int32).toInt = 7 ∧ (8 : Int32).toInt = 8 ∧ (9 : Int32).toInt = 9 ∧ (-1 : Int32).toInt = -1 ∧ (0 : Int64).toInt = 0 ∧ (1 : Int64).toInt = 1 ∧ (2 : Int64).toInt = 2 ∧ (8 : Int64).toInt = 8 ∧ (-1 : Int64).toInt = -1 := by decide
theorem oB32 (x : Int32) : -2147483648 ≤ x.toInt ∧ x.toInt ≤ 2147483647 := by
  have h1 := Int32.le_toInt x; have h2 := Int32.toInt_lt x; omega
theorem oB64 (x : Int64) : -9223372036854775808 ≤ x.toInt ∧ x.toInt ≤ 9223372036854775807 := by
  have h1 := Int64.le_toInt x; have h2 := Int64.toInt_lt x; omega
theorem oNN {i : Int} {x : UInt64} (h : Core.DInt i x) : NoNaN64 x := val64_no.mpr (Core.DInt_ne_nan h)
theorem oI2D {a : Int32} {v : UInt64} (h : v = FP.i2d a) : Core.DInt a.toInt v := h ▸ Core.i2d_int a
theorem oL2D {a : Int64} {v : UInt64} (h : v = FP.l2d a) (b : -9007199254740992 ≤ a.toInt ∧ a.toInt ≤ 9007199254740992) : Core.DInt a.toInt v := h ▸ Core.l2d_int (by have := oN53; omega)
theorem oDK (i : Int) {x : UInt64} (h : FP.l2d (Int64.ofInt i) = x) (b : (Int64.ofInt i).toInt = i ∧ (Int64.ofInt i).toInt.natAbs ≤ 2 ^ 53) : Core.DInt i x := by
  have := Core.l2d_int b.2
  rw [b.1] at this; exact h ▸ this
theorem oDAdd {i j : Int} {x y v : UInt64} (hx : Core.DInt i x) (hy : Core.DInt j y) (h : v = FP.dadd x y) (b : -9007199254740992 ≤ i + j ∧ i + j ≤ 9007199254740992) : Core.DInt (i + j) v := h ▸ Core.dadd_int hx hy (by have := oN53; omega)
theorem oDSub {i j : Int} {x y v : UInt64} (hx : Core.DInt i x) (hy : Core.DInt j y) (h : v = FP.dsub x y) (b : -9007199254740992 ≤ i - j ∧ i - j ≤ 9007199254740992) : Core.DInt (i - j) v := h ▸ Core.dsub_int hx hy (by have := oN53; omega)
theorem oDMul {i j : Int} {x y v : UInt64} (hx : Core.DInt i x) (hy : Core.DInt j y) (h : v = FP.dmul x y) (b : -9007199254740992 ≤ i * j ∧ i * j ≤ 9007199254740992) : Core.DInt (i * j) v := h ▸ Core.dmul_int hx hy (by have := oN53; omega)
theorem oCmp {i j : Int} {x y : UInt64} {o : CmpOp} {v : Int32} (hx : Core.DInt i x) (hy : Core.DInt j y) (h : v = cmpValue (FP.dcmp x y) o) : (v < 0 ↔ i < j) ∧ (v = 0 ↔ i = j) ∧ (0 < v ↔ j < i) := by
  have e : FP.dcmp x y = some (compare i j) := Core.dcmp_int hx hy
  rw [h, e, Core.compare_ite]
  by_cases h1 : i < j
  · have h2 : ¬ i = j := by omega
    have h3 : ¬ j < i := by omega
    simp only [h1, if_true, h2, h3, iff_false, iff_true]
    cases o <;> decide
  · by_cases h2 : i = j
    · have h3 : ¬ j < i := by omega
      simp only [h1, h2, if_false, if_true, iff_true, Int.lt_irrefl, iff_false]
      cases o <;> decide
    · have h3 : j < i := by omega
      simp only [h1, h2, h3, if_false, iff_false, iff_true]
      cases o <;> decide
theorem oLadd {x y z : Int64} (h : z = x + y) (b : -9223372036854775808 ≤ x.toInt + y.toInt ∧ x.toInt + y.toInt ≤ 9223372036854775807) : z.toInt = x.toInt + y.toInt := by
  rw [h, Int64.toInt_add]; exact Int.bmod_eq_of_le (by omega) (by omega)
theorem oLsub {x y z : Int64} (h : z = x - y) (b : -9223372036854775808 ≤ x.toInt - y.toInt ∧ x.toInt - y.toInt ≤ 9223372036854775807) : z.toInt = x.toInt - y.toInt := by
  rw [h, Int64.toInt_sub]; exact Int.bmod_eq_of_le (by omega) (by omega)
theorem oLmul {x y z : Int64} (h : z = x * y) (b : -9223372036854775808 ≤ x.toInt * y.toInt ∧ x.toInt * y.toInt ≤ 9223372036854775807) : z.toInt = x.toInt * y.toInt := by
  rw [h, Int64.toInt_mul]; exact Int.bmod_eq_of_le (by omega) (by omega)
theorem oIadd {x y z : Int32} (h : z = x + y) (b : -2147483648 ≤ x.toInt + y.toInt ∧ x.toInt + y.toInt ≤ 2147483647) : z.toInt = x.toInt + y.toInt := by
  rw [h, Int32.toInt_add]; exact Int.bmod_eq_of_le (by omega) (by omega)
theorem oIsub {x y z : Int32} (h : z = x - y) (b : -2147483648 ≤ x.toInt - y.toInt ∧ x.toInt - y.toInt ≤ 2147483647) : z.toInt = x.toInt - y.toInt := by
  rw [h, Int32.toInt_sub]; exact Int.bmod_eq_of_le (by omega) (by omega)
theorem oImul {x y z : Int32} (h : z = x * y) (b : -2147483648 ≤ x.toInt * y.toInt ∧ x.toInt * y.toInt ≤ 2147483647) : z.toInt = x.toInt * y.toInt := by
  rw [h, Int32.toInt_mul]; exact Int.bmod_eq_of_le (by omega) (by omega)
theorem oI2L {x : Int32} {z : Int64} (h : z = x.toInt64) : z.toInt = x.toInt := by rw [h]; exact Int32.toInt_toInt64 x
theorem oLcmp {x y : Int64} {v : Int32} (h : v = XT.cmpL x y) : (v < 0 ↔ x.toInt < y.toInt) ∧ (v = 0 ↔ x.toInt = y.toInt) ∧ (0 < v ↔ y.toInt < x.toInt) := by
  rw [h, XT.cmpL]
  simp only [Int64.lt_iff_toInt_lt, ← Int64.toInt_inj]
  by_cases h1 : y.toInt < x.toInt
  · have h2 : ¬ x.toInt = y.toInt := by omega
    have h3 : ¬ x.toInt < y.toInt := by omega
    simp only [h1, h2, h3, if_true, iff_true, iff_false]; decide
  · by_cases h2 : x.toInt = y.toInt
    · have h3 : ¬ x.toInt < y.toInt := by omega
      simp only [h1, h2, if_false, if_true, iff_true, Int.lt_irrefl, iff_false]; decide
    · have h3 : x.toInt < y.toInt := by omega
      simp only [h1, h2, h3, if_false, iff_false, iff_true]; decide
theorem oLt32 {x y : Int32} : x < y ↔ x.toInt < y.toInt := Int32.lt_iff_toInt_lt
theorem oEq32 {x y : Int32} : x = y ↔ x.toInt = y.toInt := Int32.toInt_inj.symm
theorem oEq64 {x y : Int64} : x = y ↔ x.toInt = y.toInt := Int64.toInt_inj.symm
theorem oMask (x : Int32) (k : Nat) (hk : k < 2 ^ 31) : ∃ n : Nat, n ≤ k ∧ (x &&& Int32.ofNat k) = Int32.ofNat n := by
  refine ⟨(x &&& Int32.ofNat k).toBitVec.toNat, ?_, ?_⟩
  · have e : (Int32.ofNat k).toBitVec.toNat = k := by
      show (BitVec.ofNat 32 k).toNat = k
      rw [BitVec.toNat_ofNat]; exact Nat.mod_eq_of_lt (by omega)
    rw [Int32.toBitVec_and, BitVec.toNat_and, e]; exact Nat.and_le_right
  · apply Int32.toBitVec_inj.mp
    show _ = BitVec.ofNat 32 _
    rw [BitVec.ofNat_toNat]; simp
theorem oMask3 {x v : Int32} (h : v = x &&& 3) : v = 0 ∨ v = 1 ∨ v = 2 ∨ v = 3 := by
  obtain ⟨n, hn, e⟩ := oMask x 3 (by decide)
  have e' : v = Int32.ofNat n := h.trans e
  have : n = 0 ∨ n = 1 ∨ n = 2 ∨ n = 3 := by omega
  rcases this with rfl | rfl | rfl | rfl
  · exact Or.inl e'
  · exact Or.inr (Or.inl e')
  · exact Or.inr (Or.inr (Or.inl e'))
  · exact Or.inr (Or.inr (Or.inr e'))
theorem oMask1 {x v : Int32} (h : v = x &&& 1) : v = 0 ∨ v = 1 := by
  obtain ⟨n, hn, e⟩ := oMask x 1 (by decide)
  have e' : v = Int32.ofNat n := h.trans e
  have : n = 0 ∨ n = 1 := by omega
  rcases this with rfl | rfl
  · exact Or.inl e'
  · exact Or.inr e'
theorem oMaskR {x v : Int32} (k : Nat) (hk : k < 2 ^ 31) (h : v = x &&& Int32.ofNat k) : 0 ≤ v.toInt ∧ v.toInt ≤ k := by
  obtain ⟨n, hn, e⟩ := oMask x k hk
  rw [h, e, Int32.toInt_ofNat_of_lt (by omega)]; omega
theorem oRem {u v y : Int32} (k : Int) (h : v = u % y) (hy : y.toInt = k) (hu : 0 ≤ u.toInt) : v.toInt = u.toInt % k := h ▸ (c_irem u y k hy).1 hu
/-! how great a double can be: her exponent's field is below K -/
abbrev oMag (K : Nat) (x : UInt64) : Prop := Jvm.Free.Fl.Mag64 K x
theorem oMNN {K : Nat} {x : UInt64} (h : oMag K x) (hK : K ≤ 2047) : NoNaN64 x := (h.fin hK).noNaN
theorem oMI2D {a : Int32} {v : UInt64} (h : v = FP.i2d a) : oMag 1056 v := h ▸ i2d_mag a
theorem oML2D {a : Int64} {v : UInt64} (h : v = FP.l2d a) : oMag 1088 v := h ▸ l2d_mag a
theorem oMMul {A B K : Nat} {x y v : UInt64} (hx : oMag A x) (hy : oMag B y) (h : v = FP.dmul x y) (b : A ≤ 2047 ∧ B ≤ 2047 ∧ A + B - 1025 + 3 ≤ K) : oMag K v := h ▸ (dmul_mag hx hy b.1 b.2.1).mono b.2.2
theorem oMAdd {A K : Nat} {x y v : UInt64} (hx : oMag A x) (hy : oMag A y) (h : v = FP.dadd x y) (b : A ≤ 2047 ∧ A + 2 ≤ K) : oMag K v := h ▸ (dadd_mag hx hy b.1).mono b.2
theorem oMSub {A K : Nat} {x y v : UInt64} (hx : oMag A x) (hy : oMag A y) (h : v = FP.dsub x y) (b : A ≤ 2047 ∧ A + 2 ≤ K) : oMag K v := h ▸ (dsub_mag hx hy b.1).mono b.2
theorem oMDiv {A L K : Nat} {x y v : UInt64} (hx : oMag A x) (hy : Big64 L y) (h : v = FP.ddiv x y) (b : A ≤ 2047 ∧ 1 ≤ L ∧ A + 1021 - L + 3 ≤ K) : oMag K v := h ▸ (ddiv_mag hx hy b.1 b.2.1).mono b.2.2
theorem oSame {x y : UInt64} {o : CmpOp} {v : Int32} (e : v = cmpValue (FP.dcmp x y) o) (h : x = y) (n : NoNaN64 x) : v = 0 := e.trans (dcmpV_eq h n o)
/-! a double that is no NaN, by its value in units of the least double (an infinity counts as the first number past the greatest) -/
def oZv (i : Int) (x : UInt64) : Prop := Core.val64 x ≠ .nan ∧ Core.zval Core.b64 (Core.val64 x) = i
theorem oZv.of {x : UInt64} (h : NoNaN64 x) : oZv (Core.zval Core.b64 (Core.val64 x)) x := ⟨val64_no.mp h, rfl⟩
theorem oZv.nn {i : Int} {x : UInt64} (h : oZv i x) : NoNaN64 x := val64_no.mpr h.1
theorem oZv.int {i : Int} {x : UInt64} (h : Core.DInt i x) : oZv (i * (Core.one64 : Int)) x := ⟨Core.DInt_ne_nan h, Core.DInt_zval h⟩
theorem oZmono {i j : Int} (h : i ≤ j) : i * (Core.one64 : Int) ≤ j * (Core.one64 : Int) := Int.mul_le_mul_of_nonneg_right h (Int.natCast_nonneg _)
theorem oCmpZ {i j : Int} {x y : UInt64} {o : CmpOp} {v : Int32} (hx : oZv i x) (hy : oZv j y) (h : v = cmpValue (FP.dcmp x y) o) : (v < 0 ↔ i < j) ∧ (v = 0 ↔ i = j) ∧ (0 < v ↔ j < i) := by
  have e : FP.dcmp x y = some (compare i j) := by have := Core.dcmp_zval hx.1 hy.1; rw [hx.2, hy.2] at this; exact this
  rw [h, e, Core.compare_ite]
  by_cases h1 : i < j
  · have h2 : ¬ i = j := by omega
    have h3 : ¬ j < i := by omega
    simp only [h1, if_true, h2, h3, iff_false, iff_true]
    cases o <;> decide
  · by_cases h2 : i = j
    · have h3 : ¬ j < i := by omega
      simp only [h1, h2, if_false, if_true, iff_true, Int.lt_irrefl, iff_false]
      cases o <;> decide
    · have h3 : j < i := by omega
      simp only [h1, h2, h3, if_false, iff_false, iff_true]
      cases o <;> decide
end Nums
/-! average precision in plain words: the count and the sum behind one label -/
def oR (a : Int32) : Int32 := if a < 1 then 0 else 1
def oC (c a : Int32) : Int32 := if a < 1 then c else c + 1
def oS (s : UInt64) (c : Int32) (k : UInt64) (a : Int32) : UInt64 := if a < 1 then s else FP.dadd s (FP.ddiv (FP.i2d c) k)
def oFin (c : Int32) (s : UInt64) : UInt64 := if 0 < c then FP.ddiv s (FP.i2d c) else 0
theorem oR_0 {a : Int32} (h : a < 1) : (0 : Int32) = oR a := by rw [oR, if_pos h]
theorem oR_1 {a : Int32} (h : ¬ a < 1) : (1 : Int32) = oR a := by rw [oR, if_neg h]
theorem oR_z {r a : Int32} (e : r = oR a) (h : r = 0) : a < 1 := Decidable.byContradiction fun q => by rw [e, oR, if_neg q] at h; exact absurd h (by decide)
theorem oR_n {r a : Int32} (e : r = oR a) (h : ¬ r = 0) : ¬ a < 1 := fun q => h (by rw [e, oR, if_pos q])
theorem oC_z {c a v : Int32} (e : v = c) (h : a < 1) : v = oC c a := by rw [oC, if_pos h, e]
theorem oC_n {c a v : Int32} (e : v = c + 1) (h : ¬ a < 1) : v = oC c a := by rw [oC, if_neg h, e]
theorem oS_z {s k : UInt64} {c a : Int32} (h : a < 1) : s = oS s c k a := by rw [oS, if_pos h]
theorem oS_n {s k d v w : UInt64} {c c' a : Int32} (hd : d = FP.i2d c) (hv : v = FP.ddiv d k) (hw : w = FP.dadd s v) (h : ¬ a < 1) (hc : c = c') : w = oS s c' k a := by rw [oS, if_neg h, hw, hv, hd, hc]
theorem oF_p {s d v : UInt64} {c : Int32} (hd : d = FP.i2d c) (hv : v = FP.ddiv s d) (h : 0 < c) : v = oFin c s := by rw [oFin, if_pos h, hv, hd]
theorem oF_n {s : UInt64} {c : Int32} (h : ¬ 0 < c) : (0 : UInt64) = oFin c s := by rw [oFin, if_neg h]
theorem oBigI {c : Int32} {d : UInt64} (e : d = FP.i2d c) (h : 0 < c) : Big64 1023 d := by
  have q : c.toInt ≠ 0 := by have := oLt32.mp h; simp only [Int32.reduceToInt] at this; omega
  subst e; exact FP.Core.i2d_big q
theorem d1_0 : decode prog_1_method_1_code 0 = .ok (.aload_n 0, 1) := by decide +kernel
theorem d1_1 : decode prog_1_method_1_code 1 = .ok (.invokespecial 1, 3) := by decide +kernel
theorem d1_4 : decode prog_1_method_1_code 4 = .ok (.return_, 1) := by decide +kernel
set_option maxRecDepth 65536 in
set_option maxHeartbeats 40000000 in
theorem own_init {l : Launch} {Z : State} {a0 : Array Value} {h0 : Heap} (hw : ∀ d ∈ tables_1, d.before a0 Z = true) (a : Addr) (ds : oDs) :
    oCtr l Z h0 [] (⟨"com/example/ordevo/ordevo/AveragePrecision", "<init>", "()V"⟩ : MethodName) prog_1_method_1_code 1 none ({ frames := 1, cells := 0, slots := 0, locals := 12 } : Room) #[(.ref a)] ds (oVoid fun d => d = ds) := by
  refine oCtr.of (Ls := #[.val (.ref a)]) (plainFor_of_name (by first | (simp [plainName, overriddenIn]; done) | decide +kernel)) (fun m => by first | (simp [entryFrame, mkF, argsToLocals, Value.category]; done) | rfl) ?_
  intro p e s m below meth c K
  refine oW.aloadN (pc' := 1) K d1_0 rfl rfl rfl ?_
  refine oW.initO (W := 0) (pc' := 4) K (hw _ (List.mem_of_getElem? (i := 8) rfl)) (hw _ (List.mem_of_getElem? (i := 9) rfl)) (hw _ (List.mem_of_getElem? (i := 10) rfl)) d1_1 rfl (by decide) (Nat.le_of_eq rfl) (by decide) rfl ?_
  exact oW.retV K rfl d1_4 (by decide) (by decide) ⟨rfl, rfl⟩
theorem d3_0 : decode prog_1_method_2_code 0 = .ok (.iconst 0, 1) := by decide +kernel
theorem d3_1 : decode prog_1_method_2_code 1 = .ok (.istore_n 2, 1) := by decide +kernel
theorem d3_2 : decode prog_1_method_2_code 2 = .ok (.dconst 0, 1) := by decide +kernel
theorem d3_3 : decode prog_1_method_2_code 3 = .ok (.dstore_n 3, 1) := by decide +kernel
theorem d3_4 : decode prog_1_method_2_code 4 = .ok (.iconst 1, 1) := by decide +kernel
theorem d3_5 : decode prog_1_method_2_code 5 = .ok (.istore 5, 2) := by decide +kernel
theorem d3_7 : decode prog_1_method_2_code 7 = .ok (.iload 5, 2) := by decide +kernel
theorem d3_9 : decode prog_1_method_2_code 9 = .ok (.aload_n 1, 1) := by decide +kernel
theorem d3_10 : decode prog_1_method_2_code 10 = .ok (.arraylength, 1) := by decide +kernel
theorem d3_11 : decode prog_1_method_2_code 11 = .ok (.if_icmp .gt 31, 3) := by decide +kernel
theorem d3_14 : decode prog_1_method_2_code 14 = .ok (.aload_n 1, 1) := by decide +kernel
theorem d3_15 : decode prog_1_method_2_code 15 = .ok (.iload 5, 2) := by decide +kernel
theorem d3_17 : decode prog_1_method_2_code 17 = .ok (.iconst 1, 1) := by decide +kernel
theorem d3_18 : decode prog_1_method_2_code 18 = .ok (.isub, 1) := by decide +kernel
theorem d3_19 : decode prog_1_method_2_code 19 = .ok (.iaload, 1) := by decide +kernel
theorem d3_20 : decode prog_1_method_2_code 20 = .ok (.iconst 1, 1) := by decide +kernel
theorem d3_21 : decode prog_1_method_2_code 21 = .ok (.if_icmp .lt 15, 3) := by decide +kernel
theorem d3_24 : decode prog_1_method_2_code 24 = .ok (.iinc 2 1, 3) := by decide +kernel
theorem d3_27 : decode prog_1_method_2_code 27 = .ok (.dload_n 3, 1) := by decide +kernel
theorem d3_28 : decode prog_1_method_2_code 28 = .ok (.iload_n 2, 1) := by decide +kernel
theorem d3_29 : decode prog_1_method_2_code 29 = .ok (.i2d, 1) := by decide +kernel
theorem d3_30 : decode prog_1_method_2_code 30 = .ok (.iload 5, 2) := by decide +kernel
theorem d3_32 : decode prog_1_method_2_code 32 = .ok (.i2d, 1) := by decide +kernel
theorem d3_33 : decode prog_1_method_2_code 33 = .ok (.ddiv, 1) := by decide +kernel
theorem d3_34 : decode prog_1_method_2_code 34 = .ok (.dadd, 1) := by decide +kernel
theorem d3_35 : decode prog_1_method_2_code 35 = .ok (.dstore_n 3, 1) := by decide +kernel
theorem d3_36 : decode prog_1_method_2_code 36 = .ok (.iinc 5 1, 3) := by decide +kernel
theorem d3_39 : decode prog_1_method_2_code 39 = .ok (.goto (-32), 3) := by decide +kernel
theorem d3_42 : decode prog_1_method_2_code 42 = .ok (.iload_n 2, 1) := by decide +kernel
theorem d3_43 : decode prog_1_method_2_code 43 = .ok (.ifCond .le 10, 3) := by decide +kernel
theorem d3_46 : decode prog_1_method_2_code 46 = .ok (.dload_n 3, 1) := by decide +kernel
theorem d3_47 : decode prog_1_method_2_code 47 = .ok (.iload_n 2, 1) := by decide +kernel
theorem d3_48 : decode prog_1_method_2_code 48 = .ok (.i2d, 1) := by decide +kernel
theorem d3_49 : decode prog_1_method_2_code 49 = .ok (.ddiv, 1) := by decide +kernel
theorem d3_50 : decode prog_1_method_2_code 50 = .ok (.goto 4, 3) := by decide +kernel
theorem d3_53 : decode prog_1_method_2_code 53 = .ok (.dconst 0, 1) := by decide +kernel
theorem d3_54 : decode prog_1_method_2_code 54 = .ok (.dreturn, 1) := by decide +kernel
set_option maxRecDepth 65536 in
set_option maxHeartbeats 40000000 in
theorem own_ev0 {l : Launch} {Z : State} {a0 : Array Value} {h0 : Heap} (hw : ∀ d ∈ tables_1, d.before a0 Z = true) (a b : Addr) :
    oCtr l Z h0 [] (⟨"com/example/ordevo/ordevo/AveragePrecision", "evaluate", "([I)D"⟩ : MethodName) prog_1_method_2_code 6 (some .double) ({ frames := 0, cells := 0, slots := 0, locals := 0 } : Room) #[(.ref a), (.ref b)] [(b, .inl (.int, [])), (a, .inr ("com/example/ordevo/ordevo/AveragePrecision", []))] (oVal fun w d => ∃ r : UInt64, w = .double r ∧ (r = oFin (0 : Int32) (0 : UInt64) ∧ Jvm.Free.Fl.NoNaN64 r) ∧ d = [(b, .inl (.int, [])), (a, .inr ("com/example/ordevo/ordevo/AveragePrecision", []))]) := by
  refine oCtr.of (Ls := #[.val (.ref a), .val (.ref b), .unset, .unset, .unset, .unset]) (plainFor_of_name (by first | (simp [plainName, overriddenIn]; done) | decide +kernel)) (fun m => by first | (simp [entryFrame, mkF, argsToLocals, Value.category]; done) | rfl) ?_
  intro p e s m below meth c K
  refine oW.iconst (v := (0 : Int32)) (pc' := 1) K d3_0 (by decide) rfl ?_
  refine oW.istoreN (Ls' := #[.val (.ref a), .val (.ref b), .val (.int (0 : Int32)), .unset, .unset, .unset]) (pc' := 2) K d3_1 rfl rfl ?_
  refine oW.dconst0 (pc' := 3) K d3_2 rfl ?_
  refine oW.dstoreN (Ls' := #[.val (.ref a), .val (.ref b), .val (.int (0 : Int32)), .val (.double (0 : UInt64)), .second, .unset]) (pc' := 4) K d3_3 rfl rfl ?_
  refine oW.iconst (v := (1 : Int32)) (pc' := 5) K d3_4 (by decide) rfl ?_
  refine oW.istore (Ls' := #[.val (.ref a), .val (.ref b), .val (.int (0 : Int32)), .val (.double (0 : UInt64)), .second, .val (.int (1 : Int32))]) (pc' := 7) K d3_5 rfl rfl ?_
  refine oW.iload (pc' := 9) K d3_7 rfl rfl ?_
  refine oW.aloadN (pc' := 10) K d3_9 rfl rfl rfl ?_
  refine oW.alen (i := 0) (v := (0 : Int32)) (pc' := 11) K d3_10 rfl rfl rfl ?_
  refine oW.icmp_gt (pc' := 42) (pc3 := 14) K d3_11 (by decide) (by decide) rfl (fun _ => ?_) (fun q => absurd q (by decide))
  refine oW.iloadN (pc' := 43) K d3_42 rfl rfl ?_
  refine oW.if_le (pc' := 53) (pc3 := 46) K d3_43 (by decide) (by decide) rfl (fun _ => ?_) (fun q => absurd q (by decide))
  refine oW.dconst0 (pc' := 54) K d3_53 rfl ?_
  exact oW.retD K rfl d3_54 (by decide) (by decide) ⟨_, rfl, _, rfl, ⟨oF_n (by decide), oMNN (by unfold oMag Jvm.Free.Fl.Mag64; decide : oMag 1 (0 : UInt64)) (by decide)⟩, rfl⟩
set_option maxRecDepth 65536 in
set_option maxHeartbeats 40000000 in
theorem own_ev1 {l : Launch} {Z : State} {a0 : Array Value} {h0 : Heap} (hw : ∀ d ∈ tables_1, d.before a0 Z = true) (a b : Addr) (x0 : Int32) :
    oCtr l Z h0 [] (⟨"com/example/ordevo/ordevo/AveragePrecision", "evaluate", "([I)D"⟩ : MethodName) prog_1_method_2_code 6 (some .double) ({ frames := 0, cells := 0, slots := 0, locals := 0 } : Room) #[(.ref a), (.ref b)] [(b, .inl (.int, [(.int x0)])), (a, .inr ("com/example/ordevo/ordevo/AveragePrecision", []))] (oVal fun w d => ∃ r : UInt64, w = .double r ∧ (r = oFin (oC (0 : Int32) x0) (oS (0 : UInt64) (oC (0 : Int32) x0) (4607182418800017408 : UInt64) x0) ∧ Jvm.Free.Fl.NoNaN64 r) ∧ d = [(b, .inl (.int, [(.int x0)])), (a, .inr ("com/example/ordevo/ordevo/AveragePrecision", []))]) := by
  refine oCtr.of (Ls := #[.val (.ref a), .val (.ref b), .unset, .unset, .unset, .unset]) (plainFor_of_name (by first | (simp [plainName, overriddenIn]; done) | decide +kernel)) (fun m => by first | (simp [entryFrame, mkF, argsToLocals, Value.category]; done) | rfl) ?_
  intro p e s m below meth c K
  refine oW.iconst (v := (0 : Int32)) (pc' := 1) K d3_0 (by decide) rfl ?_
  refine oW.istoreN (Ls' := #[.val (.ref a), .val (.ref b), .val (.int (0 : Int32)), .unset, .unset, .unset]) (pc' := 2) K d3_1 rfl rfl ?_
  refine oW.dconst0 (pc' := 3) K d3_2 rfl ?_
  refine oW.dstoreN (Ls' := #[.val (.ref a), .val (.ref b), .val (.int (0 : Int32)), .val (.double (0 : UInt64)), .second, .unset]) (pc' := 4) K d3_3 rfl rfl ?_
  refine oW.iconst (v := (1 : Int32)) (pc' := 5) K d3_4 (by decide) rfl ?_
  refine oW.istore (Ls' := #[.val (.ref a), .val (.ref b), .val (.int (0 : Int32)), .val (.double (0 : UInt64)), .second, .val (.int (1 : Int32))]) (pc' := 7) K d3_5 rfl rfl ?_
  refine oW.iload (pc' := 9) K d3_7 rfl rfl ?_
  refine oW.aloadN (pc' := 10) K d3_9 rfl rfl rfl ?_
  refine oW.alen (i := 0) (v := (1 : Int32)) (pc' := 11) K d3_10 rfl rfl rfl ?_
  refine oW.icmp_gt (pc' := 42) (pc3 := 14) K d3_11 (by decide) (by decide) rfl (fun q => absurd q (by decide)) (fun _ => ?_)
  refine oW.aloadN (pc' := 15) K d3_14 rfl rfl rfl ?_
  refine oW.iload (pc' := 17) K d3_15 rfl rfl ?_
  refine oW.iconst (v := (1 : Int32)) (pc' := 18) K d3_17 (by decide) rfl ?_
  refine oW.isub (v := (0 : Int32)) (pc' := 19) K d3_18 (by decide) rfl ?_
  refine oW.iaload (i := 0) (k := 0) (pc' := 20) K d3_19 rfl rfl (by decide) rfl rfl ?_
  refine oW.join (F := fun z : Int32 × UInt64 => z.1 = oC (0 : Int32) x0 ∧ z.2 = oS (0 : UInt64) (oC (0 : Int32) x0) (4607182418800017408 : UInt64) x0 ∧ oMag 1059 z.2) (pcj := 36) (Lf := fun z => #[.val (.ref a), .val (.ref b), .val (.int z.1), .val (.double z.2), .second, .val (.int (1 : Int32))]) (Sf := fun z => []) (dsf := fun z => [(b, .inl (.int, [(.int x0)])), (a, .inr ("com/example/ordevo/ordevo/AveragePrecision", []))]) ?_ ?_
  · intro J
    refine oW.iconst (v := (1 : Int32)) (pc' := 21) K d3_20 (by decide) rfl ?_
    refine oW.icmp_lt (pc' := 36) (pc3 := 24) K d3_21 (by decide) (by decide) rfl (fun c21 => ?_) (fun c21 => ?_)
    · exact J ((0 : Int32), (0 : UInt64)) (⟨oC_z rfl c21, oS_z c21, Jvm.Free.Fl.Mag64.mono (by unfold oMag Jvm.Free.Fl.Mag64; decide : oMag 1 (0 : UInt64)) (by decide)⟩)
    · refine oW.iinc (v := (1 : Int32)) (Ls' := #[.val (.ref a), .val (.ref b), .val (.int (1 : Int32)), .val (.double (0 : UInt64)), .second, .val (.int (1 : Int32))]) (pc' := 27) K d3_24 rfl (by decide) rfl rfl ?_
      refine oW.dloadN (pc' := 28) K d3_27 rfl rfl ?_
      refine oW.iloadN (pc' := 29) K d3_28 rfl rfl ?_
      refine oW.i2d (v := (4607182418800017408 : UInt64)) (pc' := 30) K d3_29 (by decide +kernel) rfl ?_
      refine oW.iload (pc' := 32) K d3_30 rfl rfl ?_
      refine oW.i2d (v := (4607182418800017408 : UInt64)) (pc' := 33) K d3_32 (by decide +kernel) rfl ?_
      obtain ⟨v33, ev33⟩ : ∃ z : UInt64, z = FP.ddiv (4607182418800017408 : UInt64) (4607182418800017408 : UInt64) := ⟨_, rfl⟩
      have mv33 : oMag 1025 v33 := oMDiv (by unfold oMag Jvm.Free.Fl.Mag64; decide : oMag 1024 (4607182418800017408 : UInt64)) (by unfold Big64; decide : Big64 1023 (4607182418800017408 : UInt64)) ev33 (by decide)
      refine oW.ddiv (pc' := 34) K d3_33 ev33 (oMNN mv33 (by decide)) rfl ?_
      obtain ⟨v34, ev34⟩ : ∃ z : UInt64, z = FP.dadd (0 : UInt64) v33 := ⟨_, rfl⟩
      have mv34 : oMag 1027 v34 := oMAdd (A := 1025) (Jvm.Free.Fl.Mag64.mono (by unfold oMag Jvm.Free.Fl.Mag64; decide : oMag 1 (0 : UInt64)) (by decide)) mv33 ev34 (by decide)
      refine oW.dadd (pc' := 35) K d3_34 ev34 (oMNN mv34 (by decide)) rfl ?_
      refine oW.dstoreN (Ls' := #[.val (.ref a), .val (.ref b), .val (.int (1 : Int32)), .val (.double v34), .second, .val (.int (1 : Int32))]) (pc' := 36) K d3_35 rfl rfl ?_
      exact J ((1 : Int32), v34) (⟨oC_n (show (1 : Int32) = 0 + 1 by decide) c21, oS_n (show (4607182418800017408 : UInt64) = FP.i2d 1 by decide +kernel) ev33 ev34 c21 (oC_n (show (1 : Int32) = 0 + 1 by decide) c21), Jvm.Free.Fl.Mag64.mono mv34 (by decide)⟩)
  rintro ⟨ct, y⟩ hct
  dsimp only at hct ⊢
  obtain ⟨gct, gy, my⟩ := hct
  refine oW.iinc (v := (2 : Int32)) (Ls' := #[.val (.ref a), .val (.ref b), .val (.int ct), .val (.double y), .second, .val (.int (2 : Int32))]) (pc' := 39) K d3_36 rfl (by decide) rfl rfl ?_
  refine oW.goto (pc' := 7) K d3_39 (by decide) (by decide) ?_
  refine oW.iload (pc' := 9) K d3_7 rfl rfl ?_
  refine oW.aloadN (pc' := 10) K d3_9 rfl rfl rfl ?_
  refine oW.alen (i := 0) (v := (1 : Int32)) (pc' := 11) K d3_10 rfl rfl rfl ?_
  refine oW.icmp_gt (pc' := 42) (pc3 := 14) K d3_11 (by decide) (by decide) rfl (fun _ => ?_) (fun q => absurd q (by decide))
  refine oW.iloadN (pc' := 43) K d3_42 rfl rfl ?_
  refine oW.if_le (pc' := 53) (pc3 := 46) K d3_43 (by decide) (by decide) rfl (fun c43 => ?_) (fun c43 => ?_)
  · refine oW.dconst0 (pc' := 54) K d3_53 rfl ?_
    exact oW.retD K rfl d3_54 (by decide) (by decide) ⟨_, rfl, _, rfl, ⟨by subst_vars; exact oF_n c43, oMNN (by unfold oMag Jvm.Free.Fl.Mag64; decide : oMag 1 (0 : UInt64)) (by decide)⟩, rfl⟩
  · refine oW.dloadN (pc' := 47) K d3_46 rfl rfl ?_
    refine oW.iloadN (pc' := 48) K d3_47 rfl rfl ?_
    obtain ⟨v48, ev48⟩ : ∃ z : UInt64, z = FP.i2d ct := ⟨_, rfl⟩
    have mv48 : oMag 1056 v48 := oMI2D ev48
    refine oW.i2d (pc' := 49) K d3_48 ev48 rfl ?_
    obtain ⟨v49, ev49⟩ : ∃ z : UInt64, z = FP.ddiv y v48 := ⟨_, rfl⟩
    have mv49 : oMag 1060 v49 := oMDiv my (oBigI ev48 c43) ev49 (by decide)
    refine oW.ddiv (pc' := 50) K d3_49 ev49 (oMNN mv49 (by decide)) rfl ?_
    refine oW.goto (pc' := 54) K d3_50 (by decide) (by decide) ?_
    exact oW.retD K rfl d3_54 (by decide) (by decide) ⟨_, rfl, _, rfl, ⟨by subst_vars; exact oF_p rfl rfl c43, oMNN mv49 (by decide)⟩, rfl⟩
set_option maxRecDepth 65536 in
set_option maxHeartbeats 40000000 in
theorem own_ev2 {l : Launch} {Z : State} {a0 : Array Value} {h0 : Heap} (hw : ∀ d ∈ tables_1, d.before a0 Z = true) (a b : Addr) (x0 x1 : Int32) :
    oCtr l Z h0 [] (⟨"com/example/ordevo/ordevo/AveragePrecision", "evaluate", "([I)D"⟩ : MethodName) prog_1_method_2_code 6 (some .double) ({ frames := 0, cells := 0, slots := 0, locals := 0 } : Room) #[(.ref a), (.ref b)] [(b, .inl (.int, [(.int x0), (.int x1)])), (a, .inr ("com/example/ordevo/ordevo/AveragePrecision", []))] (oVal fun w d => ∃ r : UInt64, w = .double r ∧ (r = oFin (oC (oC (0 : Int32) x0) x1) (oS (oS (0 : UInt64) (oC (0 : Int32) x0) (4607182418800017408 : UInt64) x0) (oC (oC (0 : Int32) x0) x1) (4611686018427387904 : UInt64) x1) ∧ Jvm.Free.Fl.NoNaN64 r) ∧ d = [(b, .inl (.int, [(.int x0), (.int x1)])), (a, .inr ("com/example/ordevo/ordevo/AveragePrecision", []))]) := by
  refine oCtr.of (Ls := #[.val (.ref a), .val (.ref b), .unset, .unset, .unset, .unset]) (plainFor_of_name (by first | (simp [plainName, overriddenIn]; done) | decide +kernel)) (fun m => by first | (simp [entryFrame, mkF, argsToLocals, Value.category]; done) | rfl) ?_
  intro p e s m below meth c K
  refine oW.iconst (v := (0 : Int32)) (pc' := 1) K d3_0 (by decide) rfl ?_
  refine oW.istoreN (Ls' := #[.val (.ref a), .val (.ref b), .val (.int (0 : Int32)), .unset, .unset, .unset]) (pc' := 2) K d3_1 rfl rfl ?_
  refine oW.dconst0 (pc' := 3) K d3_2 rfl ?_
  refine oW.dstoreN (Ls' := #[.val (.ref a), .val (.ref b), .val (.int (0 : Int32)), .val (.double (0 : UInt64)), .second, .unset]) (pc' := 4) K d3_3 rfl rfl ?_
  refine oW.iconst (v := (1 : Int32)) (pc' := 5) K d3_4 (by decide) rfl ?_
  refine oW.istore (Ls' := #[.val (.ref a), .val (.ref b), .val (.int (0 : Int32)), .val (.double (0 : UInt64)), .second, .val (.int (1 : Int32))]) (pc' := 7) K d3_5 rfl rfl ?_
  refine oW.iload (pc' := 9) K d3_7 rfl rfl ?_
  refine oW.aloadN (pc' := 10) K d3_9 rfl rfl rfl ?_
  refine oW.alen (i := 0) (v := (2 : Int32)) (pc' := 11) K d3_10 rfl rfl rfl ?_
  refine oW.icmp_gt (pc' := 42) (pc3 := 14) K d3_11 (by decide) (by decide) rfl (fun q => absurd q (by decide)) (fun _ => ?_)
  refine oW.aloadN (pc' := 15) K d3_14 rfl rfl rfl ?_
  refine oW.iload (pc' := 17) K d3_15 rfl rfl ?_
  refine oW.iconst (v := (1 : Int32)) (pc' := 18) K d3_17 (by decide) rfl ?_
  refine oW.isub (v := (0 : Int32)) (pc' := 19) K d3_18 (by decide) rfl ?_
  refine oW.iaload (i := 0) (k := 0) (pc' := 20) K d3_19 rfl rfl (by decide) rfl rfl ?_
  refine oW.join (F := fun z : Int32 × UInt64 => z.1 = oC (0 : Int32) x0 ∧ z.2 = oS (0 : UInt64) (oC (0 : Int32) x0) (4607182418800017408 : UInt64) x0 ∧ oMag 1059 z.2) (pcj := 36) (Lf := fun z => #[.val (.ref a), .val (.ref b), .val (.int z.1), .val (.double z.2), .second, .val (.int (1 : Int32))]) (Sf := fun z => []) (dsf := fun z => [(b, .inl (.int, [(.int x0), (.int x1)])), (a, .inr ("com/example/ordevo/ordevo/AveragePrecision", []))]) ?_ ?_
  · intro J
    refine oW.iconst (v := (1 : Int32)) (pc' := 21) K d3_20 (by decide) rfl ?_
    refine oW.icmp_lt (pc' := 36) (pc3 := 24) K d3_21 (by decide) (by decide) rfl (fun c21 => ?_) (fun c21 => ?_)
    · exact J ((0 : Int32), (0 : UInt64)) (⟨oC_z rfl c21, oS_z c21, Jvm.Free.Fl.Mag64.mono (by unfold oMag Jvm.Free.Fl.Mag64; decide : oMag 1 (0 : UInt64)) (by decide)⟩)
    · refine oW.iinc (v := (1 : Int32)) (Ls' := #[.val (.ref a), .val (.ref b), .val (.int (1 : Int32)), .val (.double (0 : UInt64)), .second, .val (.int (1 : Int32))]) (pc' := 27) K d3_24 rfl (by decide) rfl rfl ?_
      refine oW.dloadN (pc' := 28) K d3_27 rfl rfl ?_
      refine oW.iloadN (pc' := 29) K d3_28 rfl rfl ?_
      refine oW.i2d (v := (4607182418800017408 : UInt64)) (pc' := 30) K d3_29 (by decide +kernel) rfl ?_
      refine oW.iload (pc' := 32) K d3_30 rfl rfl ?_
      refine oW.i2d (v := (4607182418800017408 : UInt64)) (pc' := 33) K d3_32 (by decide +kernel) rfl ?_
      obtain ⟨v33, ev33⟩ : ∃ z : UInt64, z = FP.ddiv (4607182418800017408 : UInt64) (4607182418800017408 : UInt64) := ⟨_, rfl⟩
      have mv33 : oMag 1025 v33 := oMDiv (by unfold oMag Jvm.Free.Fl.Mag64; decide : oMag 1024 (4607182418800017408 : UInt64)) (by unfold Big64; decide : Big64 1023 (4607182418800017408 : UInt64)) ev33 (by decide)
      refine oW.ddiv (pc' := 34) K d3_33 ev33 (oMNN mv33 (by decide)) rfl ?_
      obtain ⟨v34, ev34⟩ : ∃ z : UInt64, z = FP.dadd (0 : UInt64) v33 := ⟨_, rfl⟩
      have mv34 : oMag 1027 v34 := oMAdd (A := 1025) (Jvm.Free.Fl.Mag64.mono (by unfold oMag Jvm.Free.Fl.Mag64; decide : oMag 1 (0 : UInt64)) (by decide)) mv33 ev34 (by decide)
      refine oW.dadd (pc' := 35) K d3_34 ev34 (oMNN mv34 (by decide)) rfl ?_
      refine oW.dstoreN (Ls' := #[.val (.ref a), .val (.ref b), .val (.int (1 : Int32)), .val (.double v34), .second, .val (.int (1 : Int32))]) (pc' := 36) K d3_35 rfl rfl ?_
      exact J ((1 : Int32), v34) (⟨oC_n (show (1 : Int32) = 0 + 1 by decide) c21, oS_n (show (4607182418800017408 : UInt64) = FP.i2d 1 by decide +kernel) ev33 ev34 c21 (oC_n (show (1 : Int32) = 0 + 1 by decide) c21), Jvm.Free.Fl.Mag64.mono mv34 (by decide)⟩)
  rintro ⟨ct, y⟩ hct
  dsimp only at hct ⊢
  obtain ⟨gct, gy, my⟩ := hct
  refine oW.iinc (v := (2 : Int32)) (Ls' := #[.val (.ref a), .val (.ref b), .val (.int ct), .val (.double y), .second, .val (.int (2 : Int32))]) (pc' := 39) K d3_36 rfl (by decide) rfl rfl ?_
  refine oW.goto (pc' := 7) K d3_39 (by decide) (by decide) ?_
  refine oW.iload (pc' := 9) K d3_7 rfl rfl ?_
  refine oW.aloadN (pc' := 10) K d3_9 rfl rfl rfl ?_
  refine oW.alen (i := 0) (v := (2 : Int32)) (pc' := 11) K d3_10 rfl rfl rfl ?_
  refine oW.icmp_gt (pc' := 42) (pc3 := 14) K d3_11 (by decide) (by decide) rfl (fun q => absurd q (by decide)) (fun _ => ?_)
  refine oW.aloadN (pc' := 15) K d3_14 rfl rfl rfl ?_
  refine oW.iload (pc' := 17) K d3_15 rfl rfl ?_
  refine oW.iconst (v := (1 : Int32)) (pc' := 18) K d3_17 (by decide) rfl ?_
  refine oW.isub (v := (1 : Int32)) (pc' := 19) K d3_18 (by decide) rfl ?_
  refine oW.iaload (i := 0) (k := 1) (pc' := 20) K d3_19 rfl rfl (by decide) rfl rfl ?_
  refine oW.join (F := fun z : Int32 × UInt64 => z.1 = oC ct x1 ∧ z.2 = oS y (oC ct x1) (4611686018427387904 : UInt64) x1 ∧ oMag 1061 z.2) (pcj := 36) (Lf := fun z => #[.val (.ref a), .val (.ref b), .val (.int z.1), .val (.double z.2), .second, .val (.int (2 : Int32))]) (Sf := fun z => []) (dsf := fun z => [(b, .inl (.int, [(.int x0), (.int x1)])), (a, .inr ("com/example/ordevo/ordevo/AveragePrecision", []))]) ?_ ?_
  · intro J
    refine oW.iconst (v := (1 : Int32)) (pc' := 21) K d3_20 (by decide) rfl ?_
    refine oW.icmp_lt (pc' := 36) (pc3 := 24) K d3_21 (by decide) (by decide) rfl (fun c21 => ?_) (fun c21 => ?_)
    · exact J (ct, y) (⟨oC_z rfl c21, oS_z c21, Jvm.Free.Fl.Mag64.mono my (by decide)⟩)
    · obtain ⟨v24, ev24⟩ : ∃ z : Int32, z = ct + Int32.ofInt 1 := ⟨_, rfl⟩
      refine oW.iinc (Ls' := #[.val (.ref a), .val (.ref b), .val (.int v24), .val (.double y), .second, .val (.int (2 : Int32))]) (pc' := 27) K d3_24 rfl ev24 rfl rfl ?_
      refine oW.dloadN (pc' := 28) K d3_27 rfl rfl ?_
      refine oW.iloadN (pc' := 29) K d3_28 rfl rfl ?_
      obtain ⟨v29, ev29⟩ : ∃ z : UInt64, z = FP.i2d v24 := ⟨_, rfl⟩
      have mv29 : oMag 1056 v29 := oMI2D ev29
      refine oW.i2d (pc' := 30) K d3_29 ev29 rfl ?_
      refine oW.iload (pc' := 32) K d3_30 rfl rfl ?_
      refine oW.i2d (v := (4611686018427387904 : UInt64)) (pc' := 33) K d3_32 (by decide +kernel) rfl ?_
      obtain ⟨v33, ev33⟩ : ∃ z : UInt64, z = FP.ddiv v29 (4611686018427387904 : UInt64) := ⟨_, rfl⟩
      have mv33 : oMag 1056 v33 := oMDiv mv29 (by unfold Big64; decide : Big64 1024 (4611686018427387904 : UInt64)) ev33 (by decide)
      refine oW.ddiv (pc' := 34) K d3_33 ev33 (oMNN mv33 (by decide)) rfl ?_
      obtain ⟨v34, ev34⟩ : ∃ z : UInt64, z = FP.dadd y v33 := ⟨_, rfl⟩
      have mv34 : oMag 1061 v34 := oMAdd (A := 1059) my (Jvm.Free.Fl.Mag64.mono mv33 (by decide)) ev34 (by decide)
      refine oW.dadd (pc' := 35) K d3_34 ev34 (oMNN mv34 (by decide)) rfl ?_
      refine oW.dstoreN (Ls' := #[.val (.ref a), .val (.ref b), .val (.int v24), .val (.double v34), .second, .val (.int (2 : Int32))]) (pc' := 36) K d3_35 rfl rfl ?_
      exact J (v24, v34) (⟨oC_n ev24 c21, oS_n ev29 ev33 ev34 c21 (oC_n ev24 c21), mv34⟩)
  rintro ⟨ct_1, y_1⟩ hct_1
  dsimp only at hct_1 ⊢
  obtain ⟨gct_1, gy_1, my_1⟩ := hct_1
  refine oW.iinc (v := (3 : Int32)) (Ls' := #[.val (.ref a), .val (.ref b), .val (.int ct_1), .val (.double y_1), .second, .val (.int (3 : Int32))]) (pc' := 39) K d3_36 rfl (by decide) rfl rfl ?_
  refine oW.goto (pc' := 7) K d3_39 (by decide) (by decide) ?_
  refine oW.iload (pc' := 9) K d3_7 rfl rfl ?_
  refine oW.aloadN (pc' := 10) K d3_9 rfl rfl rfl ?_
  refine oW.alen (i := 0) (v := (2 : Int32)) (pc' := 11) K d3_10 rfl rfl rfl ?_
  refine oW.icmp_gt (pc' := 42) (pc3 := 14) K d3_11 (by decide) (by decide) rfl (fun _ => ?_) (fun q => absurd q (by decide))
  refine oW.iloadN (pc' := 43) K d3_42 rfl rfl ?_
  refine oW.if_le (pc' := 53) (pc3 := 46) K d3_43 (by decide) (by decide) rfl (fun c43 => ?_) (fun c43 => ?_)
  · refine oW.dconst0 (pc' := 54) K d3_53 rfl ?_
    exact oW.retD K rfl d3_54 (by decide) (by decide) ⟨_, rfl, _, rfl, ⟨by subst_vars; exact oF_n c43, oMNN (by unfold oMag Jvm.Free.Fl.Mag64; decide : oMag 1 (0 : UInt64)) (by decide)⟩, rfl⟩
  · refine oW.dloadN (pc' := 47) K d3_46 rfl rfl ?_
    refine oW.iloadN (pc' := 48) K d3_47 rfl rfl ?_
    obtain ⟨v48, ev48⟩ : ∃ z : UInt64, z = FP.i2d ct_1 := ⟨_, rfl⟩
    have mv48 : oMag 1056 v48 := oMI2D ev48
    refine oW.i2d (pc' := 49) K d3_48 ev48 rfl ?_
    obtain ⟨v49, ev49⟩ : ∃ z : UInt64, z = FP.ddiv y_1 v48 := ⟨_, rfl⟩
    have mv49 : oMag 1062 v49 := oMDiv my_1 (oBigI ev48 c43) ev49 (by decide)
    refine oW.ddiv (pc' := 50) K d3_49 ev49 (oMNN mv49 (by decide)) rfl ?_
    refine oW.goto (pc' := 54) K d3_50 (by decide) (by decide) ?_
    exact oW.retD K rfl d3_54 (by decide) (by decide) ⟨_, rfl, _, rfl, ⟨by subst_vars; exact oF_p rfl rfl c43, oMNN mv49 (by decide)⟩, rfl⟩
set_option maxRecDepth 65536 in
set_option maxHeartbeats 40000000 in
theorem own_ev3 {l : Launch} {Z : State} {a0 : Array Value} {h0 : Heap} (hw : ∀ d ∈ tables_1, d.before a0 Z = true) (a b : Addr) (x0 x1 x2 : Int32) :
    oCtr l Z h0 [] (⟨"com/example/ordevo/ordevo/AveragePrecision", "evaluate", "([I)D"⟩ : MethodName) prog_1_method_2_code 6 (some .double) ({ frames := 0, cells := 0, slots := 0, locals := 0 } : Room) #[(.ref a), (.ref b)] [(b, .inl (.int, [(.int x0), (.int x1), (.int x2)])), (a, .inr ("com/example/ordevo/ordevo/AveragePrecision", []))] (oVal fun w d => ∃ r : UInt64, w = .double r ∧ (r = oFin (oC (oC (oC (0 : Int32) x0) x1) x2) (oS (oS (oS (0 : UInt64) (oC (0 : Int32) x0) (4607182418800017408 : UInt64) x0) (oC (oC (0 : Int32) x0) x1) (4611686018427387904 : UInt64) x1) (oC (oC (oC (0 : Int32) x0) x1) x2) (4613937818241073152 : UInt64) x2) ∧ Jvm.Free.Fl.NoNaN64 r) ∧ d = [(b, .inl (.int, [(.int x0), (.int x1), (.int x2)])), (a, .inr ("com/example/ordevo/ordevo/AveragePrecision", []))]) := by
  refine oCtr.of (Ls := #[.val (.ref a), .val (.ref b), .unset, .unset, .unset, .unset]) (plainFor_of_name (by first | (simp [plainName, overriddenIn]; done) | decide +kernel)) (fun m => by first | (simp [entryFrame, mkF, argsToLocals, Value.category]; done) | rfl) ?_
  intro p e s m below meth c K
  refine oW.iconst (v := (0 : Int32)) (pc' := 1) K d3_0 (by decide) rfl ?_
  refine oW.istoreN (Ls' := #[.val (.ref a), .val (.ref b), .val (.int (0 : Int32)), .unset, .unset, .unset]) (pc' := 2) K d3_1 rfl rfl ?_
  refine oW.dconst0 (pc' := 3) K d3_2 rfl ?_
  refine oW.dstoreN (Ls' := #[.val (.ref a), .val (.ref b), .val (.int (0 : Int32)), .val (.double (0 : UInt64)), .second, .unset]) (pc' := 4) K d3_3 rfl rfl ?_
  refine oW.iconst (v := (1 : Int32)) (pc' := 5) K d3_4 (by decide) rfl ?_
  refine oW.istore (Ls' := #[.val (.ref a), .val (.ref b), .val (.int (0 : Int32)), .val (.double (0 : UInt64)), .second, .val (.int (1 : Int32))]) (pc' := 7) K d3_5 rfl rfl ?_
  refine oW.iload (pc' := 9) K d3_7 rfl rfl ?_
  refine oW.aloadN (pc' := 10) K d3_9 rfl rfl rfl ?_
  refine oW.alen (i := 0) (v := (3 : Int32)) (pc' := 11) K d3_10 rfl rfl rfl ?_
  refine oW.icmp_gt (pc' := 42) (pc3 := 14) K d3_11 (by decide) (by decide) rfl (fun q => absurd q (by decide)) (fun _ => ?_)
  refine oW.aloadN (pc' := 15) K d3_14 rfl rfl rfl ?_
  refine oW.iload (pc' := 17) K d3_15 rfl rfl ?_
  refine oW.iconst (v := (1 : Int32)) (pc' := 18) K d3_17 (by decide) rfl ?_
  refine oW.isub (v := (0 : Int32)) (pc' := 19) K d3_18 (by decide) rfl ?_
  refine oW.iaload (i := 0) (k := 0) (pc' := 20) K d3_19 rfl rfl (by decide) rfl rfl ?_
  refine oW.join (F := fun z : Int32 × UInt64 => z.1 = oC (0 : Int32) x0 ∧ z.2 = oS (0 : UInt64) (oC (0 : Int32) x0) (4607182418800017408 : UInt64) x0 ∧ oMag 1059 z.2) (pcj := 36) (Lf := fun z => #[.val (.ref a), .val (.ref b), .val (.int z.1), .val (.double z.2), .second, .val (.int (1 : Int32))]) (Sf := fun z => []) (dsf := fun z => [(b, .inl (.int, [(.int x0), (.int x1), (.int x2)])), (a, .inr ("com/example/ordevo/ordevo/AveragePrecision", []))]) ?_ ?_
  · intro J
    refine oW.iconst (v := (1 : Int32)) (pc' := 21) K d3_20 (by decide) rfl ?_
    refine oW.icmp_lt (pc' := 36) (pc3 := 24) K d3_21 (by decide) (by decide) rfl (fun c21 => ?_) (fun c21 => ?_)
    · exact J ((0 : Int32), (0 : UInt64)) (⟨oC_z rfl c21, oS_z c21, Jvm.Free.Fl.Mag64.mono (by unfold oMag Jvm.Free.Fl.Mag64; decide : oMag 1 (0 : UInt64)) (by decide)⟩)
    · refine oW.iinc (v := (1 : Int32)) (Ls' := #[.val (.ref a), .val (.ref b), .val (.int (1 : Int32)), .val (.double (0 : UInt64)), .second, .val (.int (1 : Int32))]) (pc' := 27) K d3_24 rfl (by decide) rfl rfl ?_
      refine oW.dloadN (pc' := 28) K d3_27 rfl rfl ?_
      refine oW.iloadN (pc' := 29) K d3_28 rfl rfl ?_
      refine oW.i2d (v := (4607182418800017408 : UInt64)) (pc' := 30) K d3_29 (by decide +kernel) rfl ?_
      refine oW.iload (pc' := 32) K d3_30 rfl rfl ?_
      refine oW.i2d (v := (4607182418800017408 : UInt64)) (pc' := 33) K d3_32 (by decide +kernel) rfl ?_
      obtain ⟨v33, ev33⟩ : ∃ z : UInt64, z = FP.ddiv (4607182418800017408 : UInt64) (4607182418800017408 : UInt64) := ⟨_, rfl⟩
      have mv33 : oMag 1025 v33 := oMDiv (by unfold oMag Jvm.Free.Fl.Mag64; decide : oMag 1024 (4607182418800017408 : UInt64)) (by unfold Big64; decide : Big64 1023 (4607182418800017408 : UInt64)) ev33 (by decide)
      refine oW.ddiv (pc' := 34) K d3_33 ev33 (oMNN mv33 (by decide)) rfl ?_
      obtain ⟨v34, ev34⟩ : ∃ z : UInt64, z = FP.dadd (0 : UInt64) v33 := ⟨_, rfl⟩
      have mv34 : oMag 1027 v34 := oMAdd (A := 1025) (Jvm.Free.Fl.Mag64.mono (by unfold oMag Jvm.Free.Fl.Mag64; decide : oMag 1 (0 : UInt64)) (by decide)) mv33 ev34 (by decide)
      refine oW.dadd (pc' := 35) K d3_34 ev34 (oMNN mv34 (by decide)) rfl ?_
      refine oW.dstoreN (Ls' := #[.val (.ref a), .val (.ref b), .val (.int (1 : Int32)), .val (.double v34), .second, .val (.int (1 : Int32))]) (pc' := 36) K d3_35 rfl rfl ?_
      exact J ((1 : Int32), v34) (⟨oC_n (show (1 : Int32) = 0 + 1 by decide) c21, oS_n (show (4607182418800017408 : UInt64) = FP.i2d 1 by decide +kernel) ev33 ev34 c21 (oC_n (show (1 : Int32) = 0 + 1 by decide) c21), Jvm.Free.Fl.Mag64.mono mv34 (by decide)⟩)
  rintro ⟨ct, y⟩ hct
  dsimp only at hct ⊢
  obtain ⟨gct, gy, my⟩ := hct
  refine oW.iinc (v := (2 : Int32)) (Ls' := #[.val (.ref a), .val (.ref b), .val (.int ct), .val (.double y), .second, .val (.int (2 : Int32))]) (pc' := 39) K d3_36 rfl (by decide) rfl rfl ?_
  refine oW.goto (pc' := 7) K d3_39 (by decide) (by decide) ?_
  refine oW.iload (pc' := 9) K d3_7 rfl rfl ?_
  refine oW.aloadN (pc' := 10) K d3_9 rfl rfl rfl ?_
  refine oW.alen (i := 0) (v := (3 : Int32)) (pc' := 11) K d3_10 rfl rfl rfl ?_
  refine oW.icmp_gt (pc' := 42) (pc3 := 14) K d3_11 (by decide) (by decide) rfl (fun q => absurd q (by decide)) (fun _ => ?_)
  refine oW.aloadN (pc' := 15) K d3_14 rfl rfl rfl ?_
  refine oW.iload (pc' := 17) K d3_15 rfl rfl ?_
  refine oW.iconst (v := (1 : Int32)) (pc' := 18) K d3_17 (by decide) rfl ?_
  refine oW.isub (v := (1 : Int32)) (pc' := 19) K d3_18 (by decide) rfl ?_
  refine oW.iaload (i := 0) (k := 1) (pc' := 20) K d3_19 rfl rfl (by decide) rfl rfl ?_
  refine oW.join (F := fun z : Int32 × UInt64 => z.1 = oC ct x1 ∧ z.2 = oS y (oC ct x1) (4611686018427387904 : UInt64) x1 ∧ oMag 1061 z.2) (pcj := 36) (Lf := fun z => #[.val (.ref a), .val (.ref b), .val (.int z.1), .val (.double z.2), .second, .val (.int (2 : Int32))]) (Sf := fun z => []) (dsf := fun z => [(b, .inl (.int, [(.int x0), (.int x1), (.int x2)])), (a, .inr ("com/example/ordevo/ordevo/AveragePrecision", []))]) ?_ ?_
  · intro J
    refine oW.iconst (v := (1 : Int32)) (pc' := 21) K d3_20 (by decide) rfl ?_
    refine oW.icmp_lt (pc' := 36) (pc3 := 24) K d3_21 (by decide) (by decide) rfl (fun c21 => ?_) (fun c21 => ?_)
    · exact J (ct, y) (⟨oC_z rfl c21, oS_z c21, Jvm.Free.Fl.Mag64.mono my (by decide)⟩)
    · obtain ⟨v24, ev24⟩ : ∃ z : Int32, z = ct + Int32.ofInt 1 := ⟨_, rfl⟩
      refine oW.iinc (Ls' := #[.val (.ref a), .val (.ref b), .val (.int v24), .val (.double y), .second, .val (.int (2 : Int32))]) (pc' := 27) K d3_24 rfl ev24 rfl rfl ?_
      refine oW.dloadN (pc' := 28) K d3_27 rfl rfl ?_
      refine oW.iloadN (pc' := 29) K d3_28 rfl rfl ?_
      obtain ⟨v29, ev29⟩ : ∃ z : UInt64, z = FP.i2d v24 := ⟨_, rfl⟩
      have mv29 : oMag 1056 v29 := oMI2D ev29
      refine oW.i2d (pc' := 30) K d3_29 ev29 rfl ?_
      refine oW.iload (pc' := 32) K d3_30 rfl rfl ?_
      refine oW.i2d (v := (4611686018427387904 : UInt64)) (pc' := 33) K d3_32 (by decide +kernel) rfl ?_
      obtain ⟨v33, ev33⟩ : ∃ z : UInt64, z = FP.ddiv v29 (4611686018427387904 : UInt64) := ⟨_, rfl⟩
      have mv33 : oMag 1056 v33 := oMDiv mv29 (by unfold Big64; decide : Big64 1024 (4611686018427387904 : UInt64)) ev33 (by decide)
      refine oW.ddiv (pc' := 34) K d3_33 ev33 (oMNN mv33 (by decide)) rfl ?_
      obtain ⟨v34, ev34⟩ : ∃ z : UInt64, z = FP.dadd y v33 := ⟨_, rfl⟩
      have mv34 : oMag 1061 v34 := oMAdd (A := 1059) my (Jvm.Free.Fl.Mag64.mono mv33 (by decide)) ev34 (by decide)
      refine oW.dadd (pc' := 35) K d3_34 ev34 (oMNN mv34 (by decide)) rfl ?_
      refine oW.dstoreN (Ls' := #[.val (.ref a), .val (.ref b), .val (.int v24), .val (.double v34), .second, .val (.int (2 : Int32))]) (pc' := 36) K d3_35 rfl rfl ?_
      exact J (v24, v34) (⟨oC_n ev24 c21, oS_n ev29 ev33 ev34 c21 (oC_n ev24 c21), mv34⟩)
  rintro ⟨ct_1, y_1⟩ hct_1
  dsimp only at hct_1 ⊢
  obtain ⟨gct_1, gy_1, my_1⟩ := hct_1
  refine oW.iinc (v := (3 : Int32)) (Ls' := #[.val (.ref a), .val (.ref b), .val (.int ct_1), .val (.double y_1), .second, .val (.int (3 : Int32))]) (pc' := 39) K d3_36 rfl (by decide) rfl rfl ?_
  refine oW.goto (pc' := 7) K d3_39 (by decide) (by decide) ?_
  refine oW.iload (pc' := 9) K d3_7 rfl rfl ?_
  refine oW.aloadN (pc' := 10) K d3_9 rfl rfl rfl ?_
  refine oW.alen (i := 0) (v := (3 : Int32)) (pc' := 11) K d3_10 rfl rfl rfl ?_
  refine oW.icmp_gt (pc' := 42) (pc3 := 14) K d3_11 (by decide) (by decide) rfl (fun q => absurd q (by decide)) (fun _ => ?_)
  refine oW.aloadN (pc' := 15) K d3_14 rfl rfl rfl ?_
  refine oW.iload (pc' := 17) K d3_15 rfl rfl ?_
  refine oW.iconst (v := (1 : Int32)) (pc' := 18) K d3_17 (by decide) rfl ?_
  refine oW.isub (v := (2 : Int32)) (pc' := 19) K d3_18 (by decide) rfl ?_
  refine oW.iaload (i := 0) (k := 2) (pc' := 20) K d3_19 rfl rfl (by decide) rfl rfl ?_
  refine oW.join (F := fun z : Int32 × UInt64 => z.1 = oC ct_1 x2 ∧ z.2 = oS y_1 (oC ct_1 x2) (4613937818241073152 : UInt64) x2 ∧ oMag 1063 z.2) (pcj := 36) (Lf := fun z => #[.val (.ref a), .val (.ref b), .val (.int z.1), .val (.double z.2), .second, .val (.int (3 : Int32))]) (Sf := fun z => []) (dsf := fun z => [(b, .inl (.int, [(.int x0), (.int x1), (.int x2)])), (a, .inr ("com/example/ordevo/ordevo/AveragePrecision", []))]) ?_ ?_
  · intro J
    refine oW.iconst (v := (1 : Int32)) (pc' := 21) K d3_20 (by decide) rfl ?_
    refine oW.icmp_lt (pc' := 36) (pc3 := 24) K d3_21 (by decide) (by decide) rfl (fun c21 => ?_) (fun c21 => ?_)
    · exact J (ct_1, y_1) (⟨oC_z rfl c21, oS_z c21, Jvm.Free.Fl.Mag64.mono my_1 (by decide)⟩)
    · obtain ⟨v24, ev24⟩ : ∃ z : Int32, z = ct_1 + Int32.ofInt 1 := ⟨_, rfl⟩
      refine oW.iinc (Ls' := #[.val (.ref a), .val (.ref b), .val (.int v24), .val (.double y_1), .second, .val (.int (3 : Int32))]) (pc' := 27) K d3_24 rfl ev24 rfl rfl ?_
      refine oW.dloadN (pc' := 28) K d3_27 rfl rfl ?_
      refine oW.iloadN (pc' := 29) K d3_28 rfl rfl ?_
      obtain ⟨v29, ev29⟩ : ∃ z : UInt64, z = FP.i2d v24 := ⟨_, rfl⟩
      have mv29 : oMag 1056 v29 := oMI2D ev29
      refine oW.i2d (pc' := 30) K d3_29 ev29 rfl ?_
      refine oW.iload (pc' := 32) K d3_30 rfl rfl ?_
      refine oW.i2d (v := (4613937818241073152 : UInt64)) (pc' := 33) K d3_32 (by decide +kernel) rfl ?_
      obtain ⟨v33, ev33⟩ : ∃ z : UInt64, z = FP.ddiv v29 (4613937818241073152 : UInt64) := ⟨_, rfl⟩
      have mv33 : oMag 1056 v33 := oMDiv mv29 (by unfold Big64; decide : Big64 1024 (4613937818241073152 : UInt64)) ev33 (by decide)
      refine oW.ddiv (pc' := 34) K d3_33 ev33 (oMNN mv33 (by decide)) rfl ?_
      obtain ⟨v34, ev34⟩ : ∃ z : UInt64, z = FP.dadd y_1 v33 := ⟨_, rfl⟩
      have mv34 : oMag 1063 v34 := oMAdd (A := 1061) my_1 (Jvm.Free.Fl.Mag64.mono mv33 (by decide)) ev34 (by decide)
      refine oW.dadd (pc' := 35) K d3_34 ev34 (oMNN mv34 (by decide)) rfl ?_
      refine oW.dstoreN (Ls' := #[.val (.ref a), .val (.ref b), .val (.int v24), .val (.double v34), .second, .val (.int (3 : Int32))]) (pc' := 36) K d3_35 rfl rfl ?_
      exact J (v24, v34) (⟨oC_n ev24 c21, oS_n ev29 ev33 ev34 c21 (oC_n ev24 c21), mv34⟩)
  rintro ⟨ct_2, y_2⟩ hct_2
  dsimp only at hct_2 ⊢
  obtain ⟨gct_2, gy_2, my_2⟩ := hct_2
  refine oW.iinc (v := (4 : Int32)) (Ls' := #[.val (.ref a), .val (.ref b), .val (.int ct_2), .val (.double y_2), .second, .val (.int (4 : Int32))]) (pc' := 39) K d3_36 rfl (by decide) rfl rfl ?_
  refine oW.goto (pc' := 7) K d3_39 (by decide) (by decide) ?_
  refine oW.iload (pc' := 9) K d3_7 rfl rfl ?_
  refine oW.aloadN (pc' := 10) K d3_9 rfl rfl rfl ?_
  refine oW.alen (i := 0) (v := (3 : Int32)) (pc' := 11) K d3_10 rfl rfl rfl ?_
  refine oW.icmp_gt (pc' := 42) (pc3 := 14) K d3_11 (by decide) (by decide) rfl (fun _ => ?_) (fun q => absurd q (by decide))
  refine oW.iloadN (pc' := 43) K d3_42 rfl rfl ?_
  refine oW.if_le (pc' := 53) (pc3 := 46) K d3_43 (by decide) (by decide) rfl (fun c43 => ?_) (fun c43 => ?_)
  · refine oW.dconst0 (pc' := 54) K d3_53 rfl ?_
    exact oW.retD K rfl d3_54 (by decide) (by decide) ⟨_, rfl, _, rfl, ⟨by subst_vars; exact oF_n c43, oMNN (by unfold oMag Jvm.Free.Fl.Mag64; decide : oMag 1 (0 : UInt64)) (by decide)⟩, rfl⟩
  · refine oW.dloadN (pc' := 47) K d3_46 rfl rfl ?_
    refine oW.iloadN (pc' := 48) K d3_47 rfl rfl ?_
    obtain ⟨v48, ev48⟩ : ∃ z : UInt64, z = FP.i2d ct_2 := ⟨_, rfl⟩
    have mv48 : oMag 1056 v48 := oMI2D ev48
    refine oW.i2d (pc' := 49) K d3_48 ev48 rfl ?_
    obtain ⟨v49, ev49⟩ : ∃ z : UInt64, z = FP.ddiv y_2 v48 := ⟨_, rfl⟩
    have mv49 : oMag 1064 v49 := oMDiv my_2 (oBigI ev48 c43) ev49 (by decide)
    refine oW.ddiv (pc' := 50) K d3_49 ev49 (oMNN mv49 (by decide)) rfl ?_
    refine oW.goto (pc' := 54) K d3_50 (by decide) (by decide) ?_
    exact oW.retD K rfl d3_54 (by decide) (by decide) ⟨_, rfl, _, rfl, ⟨by subst_vars; exact oF_p rfl rfl c43, oMNN mv49 (by decide)⟩, rfl⟩
set_option maxRecDepth 65536 in
set_option maxHeartbeats 40000000 in
theorem own_ev4 {l : Launch} {Z : State} {a0 : Array Value} {h0 : Heap} (hw : ∀ d ∈ tables_1, d.before a0 Z = true) (a b : Addr) (x0 x1 x2 x3 : Int32) :
    oCtr l Z h0 [] (⟨"com/example/ordevo/ordevo/AveragePrecision", "evaluate", "([I)D"⟩ : MethodName) prog_1_method_2_code 6 (some .double) ({ frames := 0, cells := 0, slots := 0, locals := 0 } : Room) #[(.ref a), (.ref b)] [(b, .inl (.int, [(.int x0), (.int x1), (.int x2), (.int x3)])), (a, .inr ("com/example/ordevo/ordevo/AveragePrecision", []))] (oVal fun w d => ∃ r : UInt64, w = .double r ∧ (r = oFin (oC (oC (oC (oC (0 : Int32) x0) x1) x2) x3) (oS (oS (oS (oS (0 : UInt64) (oC (0 : Int32) x0) (4607182418800017408 : UInt64) x0) (oC (oC (0 : Int32) x0) x1) (4611686018427387904 : UInt64) x1) (oC (oC (oC (0 : Int32) x0) x1) x2) (4613937818241073152 : UInt64) x2) (oC (oC (oC (oC (0 : Int32) x0) x1) x2) x3) (4616189618054758400 : UInt64) x3) ∧ Jvm.Free.Fl.NoNaN64 r) ∧ d = [(b, .inl (.int, [(.int x0), (.int x1), (.int x2), (.int x3)])), (a, .inr ("com/example/ordevo/ordevo/AveragePrecision", []))]) := by
  refine oCtr.of (Ls := #[.val (.ref a), .val (.ref b), .unset, .unset, .unset, .unset]) (plainFor_of_name (by first | (simp [plainName, overriddenIn]; done) | decide +kernel)) (fun m => by first | (simp [entryFrame, mkF, argsToLocals, Value.category]; done) | rfl) ?_
  intro p e s m below meth c K
  refine oW.iconst (v := (0 : Int32)) (pc' := 1) K d3_0 (by decide) rfl ?_
  refine oW.istoreN (Ls' := #[.val (.ref a), .val (.ref b), .val (.int (0 : Int32)), .unset, .unset, .unset]) (pc' := 2) K d3_1 rfl rfl ?_
  refine oW.dconst0 (pc' := 3) K d3_2 rfl ?_
  refine oW.dstoreN (Ls' := #[.val (.ref a), .val (.ref b), .val (.int (0 : Int32)), .val (.double (0 : UInt64)), .second, .unset]) (pc' := 4) K d3_3 rfl rfl ?_
  refine oW.iconst (v := (1 : Int32)) (pc' := 5) K d3_4 (by decide) rfl ?_
  refine oW.istore (Ls' := #[.val (.ref a), .val (.ref b), .val (.int (0 : Int32)), .val (.double (0 : UInt64)), .second, .val (.int (1 : Int32))]) (pc' := 7) K d3_5 rfl rfl ?_
  refine oW.iload (pc' := 9) K d3_7 rfl rfl ?_
  refine oW.aloadN (pc' := 10) K d3_9 rfl rfl rfl ?_
  refine oW.alen (i := 0) (v := (4 : Int32)) (pc' := 11) K d3_10 rfl rfl rfl ?_
  refine oW.icmp_gt (pc' := 42) (pc3 := 14) K d3_11 (by decide) (by decide) rfl (fun q => absurd q (by decide)) (fun _ => ?_)
  refine oW.aloadN (pc' := 15) K d3_14 rfl rfl rfl ?_
  refine oW.iload (pc' := 17) K d3_15 rfl rfl ?_
  refine oW.iconst (v := (1 : Int32)) (pc' := 18) K d3_17 (by decide) rfl ?_
  refine oW.isub (v := (0 : Int32)) (pc' := 19) K d3_18 (by decide) rfl ?_
  refine oW.iaload (i := 0) (k := 0) (pc' := 20) K d3_19 rfl rfl (by decide) rfl rfl ?_
  refine oW.join (F := fun z : Int32 × UInt64 => z.1 = oC (0 : Int32) x0 ∧ z.2 = oS (0 : UInt64) (oC (0 : Int32) x0) (4607182418800017408 : UInt64) x0 ∧ oMag 1059 z.2) (pcj := 36) (Lf := fun z => #[.val (.ref a), .val (.ref b), .val (.int z.1), .val (.double z.2), .second, .val (.int (1 : Int32))]) (Sf := fun z => []) (dsf := fun z => [(b, .inl (.int, [(.int x0), (.int x1), (.int x2), (.int x3)])), (a, .inr ("com/example/ordevo/ordevo/AveragePrecision", []))]) ?_ ?_
  · intro J
    refine oW.iconst (v := (1 : Int32)) (pc' := 21) K d3_20 (by decide) rfl ?_
    refine oW.icmp_lt (pc' := 36) (pc3 := 24) K d3_21 (by decide) (by decide) rfl (fun c21 => ?_) (fun c21 => ?_)
    · exact J ((0 : Int32), (0 : UInt64)) (⟨oC_z rfl c21, oS_z c21, Jvm.Free.Fl.Mag64.mono (by unfold oMag Jvm.Free.Fl.Mag64; decide : oMag 1 (0 : UInt64)) (by decide)⟩)
    · refine oW.iinc (v := (1 : Int32)) (Ls' := #[.val (.ref a), .val (.ref b), .val (.int (1 : Int32)), .val (.double (0 : UInt64)), .second, .val (.int (1 : Int32))]) (pc' := 27) K d3_24 rfl (by decide) rfl rfl ?_
      refine oW.dloadN (pc' := 28) K d3_27 rfl rfl ?_
      refine oW.iloadN (pc' := 29) K d3_28 rfl rfl ?_
      refine oW.i2d (v := (4607182418800017408 : UInt64)) (pc' := 30) K d3_29 (by decide +kernel) rfl ?_
      refine oW.iload (pc' := 32) K d3_30 rfl rfl ?_
      refine oW.i2d (v := (4607182418800017408 : UInt64)) (pc' := 33) K d3_32 (by decide +kernel) rfl ?_
      obtain ⟨v33, ev33⟩ : ∃ z : UInt64, z = FP.ddiv (4607182418800017408 : UInt64) (4607182418800017408 : UInt64) := ⟨_, rfl⟩
      have mv33 : oMag 1025 v33 := oMDiv (by unfold oMag Jvm.Free.Fl.Mag64; decide : oMag 1024 (4607182418800017408 : UInt64)) (by unfold Big64; decide : Big64 1023 (4607182418800017408 : UInt64)) ev33 (by decide)
      refine oW.ddiv (pc' := 34) K d3_33 ev33 (oMNN mv33 (by decide)) rfl ?_
      obtain ⟨v34, ev34⟩ : ∃ z : UInt64, z = FP.dadd (0 : UInt64) v33 := ⟨_, rfl⟩
      have mv34 : oMag 1027 v34 := oMAdd (A := 1025) (Jvm.Free.Fl.Mag64.mono (by unfold oMag Jvm.Free.Fl.Mag64; decide : oMag 1 (0 : UInt64)) (by decide)) mv33 ev34 (by decide)
      refine oW.dadd (pc' := 35) K d3_34 ev34 (oMNN mv34 (by decide)) rfl ?_
      refine oW.dstoreN (Ls' := #[.val (.ref a), .val (.ref b), .val (.int (1 : Int32)), .val (.double v34), .second, .val (.int (1 : Int32))]) (pc' := 36) K d3_35 rfl rfl ?_
      exact J ((1 : Int32), v34) (⟨oC_n (show (1 : Int32) = 0 + 1 by decide) c21, oS_n (show (4607182418800017408 : UInt64) = FP.i2d 1 by decide +kernel) ev33 ev34 c21 (oC_n (show (1 : Int32) = 0 + 1 by decide) c21), Jvm.Free.Fl.Mag64.mono mv34 (by decide)⟩)
  rintro ⟨ct, y⟩ hct
  dsimp only at hct ⊢
  obtain ⟨gct, gy, my⟩ := hct
  refine oW.iinc (v := (2 : Int32)) (Ls' := #[.val (.ref a), .val (.ref b), .val (.int ct), .val (.double y), .second, .val (.int (2 : Int32))]) (pc' := 39) K d3_36 rfl (by decide) rfl rfl ?_
  refine oW.goto (pc' := 7) K d3_39 (by decide) (by decide) ?_
  refine oW.iload (pc' := 9) K d3_7 rfl rfl ?_
  refine oW.aloadN (pc' := 10) K d3_9 rfl rfl rfl ?_
  refine oW.alen (i := 0) (v := (4 : Int32)) (pc' := 11) K d3_10 rfl rfl rfl ?_
  refine oW.icmp_gt (pc' := 42) (pc3 := 14) K d3_11 (by decide) (by decide) rfl (fun q => absurd q (by decide)) (fun _ => ?_)
  refine oW.aloadN (pc' := 15) K d3_14 rfl rfl rfl ?_
  refine oW.iload (pc' := 17) K d3_15 rfl rfl ?_
  refine oW.iconst (v := (1 : Int32)) (pc' := 18) K d3_17 (by decide) rfl ?_
  refine oW.isub (v := (1 : Int32)) (pc' := 19) K d3_18 (by decide) rfl ?_
  refine oW.iaload (i := 0) (k := 1) (pc' := 20) K d3_19 rfl rfl (by decide) rfl rfl ?_
  refine oW.join (F := fun z : Int32 × UInt64 => z.1 = oC ct x1 ∧ z.2 = oS y (oC ct x1) (4611686018427387904 : UInt64) x1 ∧ oMag 1061 z.2) (pcj := 36) (Lf := fun z => #[.val (.ref a), .val (.ref b), .val (.int z.1), .val (.double z.2), .second, .val (.int (2 : Int32))]) (Sf := fun z => []) (dsf := fun z => [(b, .inl (.int, [(.int x0), (.int x1), (.int x2), (.int x3)])), (a, .inr ("com/example/ordevo/ordevo/AveragePrecision", []))]) ?_ ?_
  · intro J
    refine oW.iconst (v := (1 : Int32)) (pc' := 21) K d3_20 (by decide) rfl ?_
    refine oW.icmp_lt (pc' := 36) (pc3 := 24) K d3_21 (by decide) (by decide) rfl (fun c21 => ?_) (fun c21 => ?_)
    · exact J (ct, y) (⟨oC_z rfl c21, oS_z c21, Jvm.Free.Fl.Mag64.mono my (by decide)⟩)
    · obtain ⟨v24, ev24⟩ : ∃ z : Int32, z = ct + Int32.ofInt 1 := ⟨_, rfl⟩
      refine oW.iinc (Ls' := #[.val (.ref a), .val (.ref b), .val (.int v24), .val (.double y), .second, .val (.int (2 : Int32))]) (pc' := 27) K d3_24 rfl ev24 rfl rfl ?_
      refine oW.dloadN (pc' := 28) K d3_27 rfl rfl ?_
      refine oW.iloadN (pc' := 29) K d3_28 rfl rfl ?_
      obtain ⟨v29, ev29⟩ : ∃ z : UInt64, z = FP.i2d v24 := ⟨_, rfl⟩
      have mv29 : oMag 1056 v29 := oMI2D ev29
      refine oW.i2d (pc' := 30) K d3_29 ev29 rfl ?_
      refine oW.iload (pc' := 32) K d3_30 rfl rfl ?_
      refine oW.i2d (v := (4611686018427387904 : UInt64)) (pc' := 33) K d3_32 (by decide +kernel) rfl ?_
      obtain ⟨v33, ev33⟩ : ∃ z : UInt64, z = FP.ddiv v29 (4611686018427387904 : UInt64) := ⟨_, rfl⟩
      have mv33 : oMag 1056 v33 := oMDiv mv29 (by unfold Big64; decide : Big64 1024 (4611686018427387904 : UInt64)) ev33 (by decide)
      refine oW.ddiv (pc' := 34) K d3_33 ev33 (oMNN mv33 (by decide)) rfl ?_
      obtain ⟨v34, ev34⟩ : ∃ z : UInt64, z = FP.dadd y v33 := ⟨_, rfl⟩
      have mv34 : oMag 1061 v34 := oMAdd (A := 1059) my (Jvm.Free.Fl.Mag64.mono mv33 (by decide)) ev34 (by decide)
      refine oW.dadd (pc' := 35) K d3_34 ev34 (oMNN mv34 (by decide)) rfl ?_
      refine oW.dstoreN (Ls' := #[.val (.ref a), .val (.ref b), .val (.int v24), .val (.double v34), .second, .val (.int (2 : Int32))]) (pc' := 36) K d3_35 rfl rfl ?_
      exact J (v24, v34) (⟨oC_n ev24 c21, oS_n ev29 ev33 ev34 c21 (oC_n ev24 c21), mv34⟩)
  rintro ⟨ct_1, y_1⟩ hct_1
  dsimp only at hct_1 ⊢
  obtain ⟨gct_1, gy_1, my_1⟩ := hct_1
  refine oW.iinc (v := (3 : Int32)) (Ls' := #[.val (.ref a), .val (.ref b), .val (.int ct_1), .val (.double y_1), .second, .val (.int (3 : Int32))]) (pc' := 39) K d3_36 rfl (by decide) rfl rfl ?_
  refine oW.goto (pc' := 7) K d3_39 (by decide) (by decide) ?_
  refine oW.iload (pc' := 9) K d3_7 rfl rfl ?_
  refine oW.aloadN (pc' := 10) K d3_9 rfl rfl rfl ?_
  refine oW.alen (i := 0) (v := (4 : Int32)) (pc' := 11) K d3_10 rfl rfl rfl ?_
  refine oW.icmp_gt (pc' := 42) (pc3 := 14) K d3_11 (by decide) (by decide) rfl (fun q => absurd q (by decide)) (fun _ => ?_)
  refine oW.aloadN (pc' := 15) K d3_14 rfl rfl rfl ?_
  refine oW.iload (pc' := 17) K d3_15 rfl rfl ?_
  refine oW.iconst (v := (1 : Int32)) (pc' := 18) K d3_17 (by decide) rfl ?_
  refine oW.isub (v := (2 : Int32)) (pc' := 19) K d3_18 (by decide) rfl ?_
  refine oW.iaload (i := 0) (k := 2) (pc' := 20) K d3_19 rfl rfl (by decide) rfl rfl ?_
  refine oW.join (F := fun z : Int32 × UInt64 => z.1 = oC ct_1 x2 ∧ z.2 = oS y_1 (oC ct_1 x2) (4613937818241073152 : UInt64) x2 ∧ oMag 1063 z.2) (pcj := 36) (Lf := fun z => #[.val (.ref a), .val (.ref b), .val (.int z.1), .val (.double z.2), .second, .val (.int (3 : Int32))]) (Sf := fun z => []) (dsf := fun z => [(b, .inl (.int, [(.int x0), (.int x1), (.int x2), (.int x3)])), (a, .inr ("com/example/ordevo/ordevo/AveragePrecision", []))]) ?_ ?_
  · intro J
    refine oW.iconst (v := (1 : Int32)) (pc' := 21) K d3_20 (by decide) rfl ?_
    refine oW.icmp_lt (pc' := 36) (pc3 := 24) K d3_21 (by decide) (by decide) rfl (fun c21 => ?_) (fun c21 => ?_)
    · exact J (ct_1, y_1) (⟨oC_z rfl c21, oS_z c21, Jvm.Free.Fl.Mag64.mono my_1 (by decide)⟩)
    · obtain ⟨v24, ev24⟩ : ∃ z : Int32, z = ct_1 + Int32.ofInt 1 := ⟨_, rfl⟩
      refine oW.iinc (Ls' := #[.val (.ref a), .val (.ref b), .val (.int v24), .val (.double y_1), .second, .val (.int (3 : Int32))]) (pc' := 27) K d3_24 rfl ev24 rfl rfl ?_
      refine oW.dloadN (pc' := 28) K d3_27 rfl rfl ?_
      refine oW.iloadN (pc' := 29) K d3_28 rfl rfl ?_
      obtain ⟨v29, ev29⟩ : ∃ z : UInt64, z = FP.i2d v24 := ⟨_, rfl⟩
      have mv29 : oMag 1056 v29 := oMI2D ev29
      refine oW.i2d (pc' := 30) K d3_29 ev29 rfl ?_
      refine oW.iload (pc' := 32) K d3_30 rfl rfl ?_
      refine oW.i2d (v := (4613937818241073152 : UInt64)) (pc' := 33) K d3_32 (by decide +kernel) rfl ?_
      obtain ⟨v33, ev33⟩ : ∃ z : UInt64, z = FP.ddiv v29 (4613937818241073152 : UInt64) := ⟨_, rfl⟩
      have mv33 : oMag 1056 v33 := oMDiv mv29 (by unfold Big64; decide : Big64 1024 (4613937818241073152 : UInt64)) ev33 (by decide)
      refine oW.ddiv (pc' := 34) K d3_33 ev33 (oMNN mv33 (by decide)) rfl ?_
      obtain ⟨v34, ev34⟩ : ∃ z : UInt64, z = FP.dadd y_1 v33 := ⟨_, rfl⟩
      have mv34 : oMag 1063 v34 := oMAdd (A := 1061) my_1 (Jvm.Free.Fl.Mag64.mono mv33 (by decide)) ev34 (by decide)
      refine oW.dadd (pc' := 35) K d3_34 ev34 (oMNN mv34 (by decide)) rfl ?_
      refine oW.dstoreN (Ls' := #[.val (.ref a), .val (.ref b), .val (.int v24), .val (.double v34), .second, .val (.int (3 : Int32))]) (pc' := 36) K d3_35 rfl rfl ?_
      exact J (v24, v34) (⟨oC_n ev24 c21, oS_n ev29 ev33 ev34 c21 (oC_n ev24 c21), mv34⟩)
  rintro ⟨ct_2, y_2⟩ hct_2
  dsimp only at hct_2 ⊢
  obtain ⟨gct_2, gy_2, my_2⟩ := hct_2
  refine oW.iinc (v := (4 : Int32)) (Ls' := #[.val (.ref a), .val (.ref b), .val (.int ct_2), .val (.double y_2), .second, .val (.int (4 : Int32))]) (pc' := 39) K d3_36 rfl (by decide) rfl rfl ?_
  refine oW.goto (pc' := 7) K d3_39 (by decide) (by decide) ?_
  refine oW.iload (pc' := 9) K d3_7 rfl rfl ?_
  refine oW.aloadN (pc' := 10) K d3_9 rfl rfl rfl ?_
  refine oW.alen (i := 0) (v := (4 : Int32)) (pc' := 11) K d3_10 rfl rfl rfl ?_
  refine oW.icmp_gt (pc' := 42) (pc3 := 14) K d3_11 (by decide) (by decide) rfl (fun q => absurd q (by decide)) (fun _ => ?_)
  refine oW.aloadN (pc' := 15) K d3_14 rfl rfl rfl ?_
  refine oW.iload (pc' := 17) K d3_15 rfl rfl ?_
  refine oW.iconst (v := (1 : Int32)) (pc' := 18) K d3_17 (by decide) rfl ?_
  refine oW.isub (v := (3 : Int32)) (pc' := 19) K d3_18 (by decide) rfl ?_
  refine oW.iaload (i := 0) (k := 3) (pc' := 20) K d3_19 rfl rfl (by decide) rfl rfl ?_
  refine oW.join (F := fun z : Int32 × UInt64 => z.1 = oC ct_2 x3 ∧ z.2 = oS y_2 (oC ct_2 x3) (4616189618054758400 : UInt64) x3 ∧ oMag 1065 z.2) (pcj := 36) (Lf := fun z => #[.val (.ref a), .val (.ref b), .val (.int z.1), .val (.double z.2), .second, .val (.int (4 : Int32))]) (Sf := fun z => []) (dsf := fun z => [(b, .inl (.int, [(.int x0), (.int x1), (.int x2), (.int x3)])), (a, .inr ("com/example/ordevo/ordevo/AveragePrecision", []))]) ?_ ?_
  · intro J
    refine oW.iconst (v := (1 : Int32)) (pc' := 21) K d3_20 (by decide) rfl ?_
    refine oW.icmp_lt (pc' := 36) (pc3 := 24) K d3_21 (by decide) (by decide) rfl (fun c21 => ?_) (fun c21 => ?_)
    · exact J (ct_2, y_2) (⟨oC_z rfl c21, oS_z c21, Jvm.Free.Fl.Mag64.mono my_2 (by decide)⟩)
    · obtain ⟨v24, ev24⟩ : ∃ z : Int32, z = ct_2 + Int32.ofInt 1 := ⟨_, rfl⟩
      refine oW.iinc (Ls' := #[.val (.ref a), .val (.ref b), .val (.int v24), .val (.double y_2), .second, .val (.int (4 : Int32))]) (pc' := 27) K d3_24 rfl ev24 rfl rfl ?_
      refine oW.dloadN (pc' := 28) K d3_27 rfl rfl ?_
      refine oW.iloadN (pc' := 29) K d3_28 rfl rfl ?_
      obtain ⟨v29, ev29⟩ : ∃ z : UInt64, z = FP.i2d v24 := ⟨_, rfl⟩
      have mv29 : oMag 1056 v29 := oMI2D ev29
      refine oW.i2d (pc' := 30) K d3_29 ev29 rfl ?_
      refine oW.iload (pc' := 32) K d3_30 rfl rfl ?_
      refine oW.i2d (v := (4616189618054758400 : UInt64)) (pc' := 33) K d3_32 (by decide +kernel) rfl ?_
      obtain ⟨v33, ev33⟩ : ∃ z : UInt64, z = FP.ddiv v29 (4616189618054758400 : UInt64) := ⟨_, rfl⟩
      have mv33 : oMag 1055 v33 := oMDiv mv29 (by unfold Big64; decide : Big64 1025 (4616189618054758400 : UInt64)) ev33 (by decide)
      refine oW.ddiv (pc' := 34) K d3_33 ev33 (oMNN mv33 (by decide)) rfl ?_
      obtain ⟨v34, ev34⟩ : ∃ z : UInt64, z = FP.dadd y_2 v33 := ⟨_, rfl⟩
      have mv34 : oMag 1065 v34 := oMAdd (A := 1063) my_2 (Jvm.Free.Fl.Mag64.mono mv33 (by decide)) ev34 (by decide)
      refine oW.dadd (pc' := 35) K d3_34 ev34 (oMNN mv34 (by decide)) rfl ?_
      refine oW.dstoreN (Ls' := #[.val (.ref a), .val (.ref b), .val (.int v24), .val (.double v34), .second, .val (.int (4 : Int32))]) (pc' := 36) K d3_35 rfl rfl ?_
      exact J (v24, v34) (⟨oC_n ev24 c21, oS_n ev29 ev33 ev34 c21 (oC_n ev24 c21), mv34⟩)
  rintro ⟨ct_3, y_3⟩ hct_3
  dsimp only at hct_3 ⊢
  obtain ⟨gct_3, gy_3, my_3⟩ := hct_3
  refine oW.iinc (v := (5 : Int32)) (Ls' := #[.val (.ref a), .val (.ref b), .val (.int ct_3), .val (.double y_3), .second, .val (.int (5 : Int32))]) (pc' := 39) K d3_36 rfl (by decide) rfl rfl ?_
  refine oW.goto (pc' := 7) K d3_39 (by decide) (by decide) ?_
  refine oW.iload (pc' := 9) K d3_7 rfl rfl ?_
  refine oW.aloadN (pc' := 10) K d3_9 rfl rfl rfl ?_
  refine oW.alen (i := 0) (v := (4 : Int32)) (pc' := 11) K d3_10 rfl rfl rfl ?_
  refine oW.icmp_gt (pc' := 42) (pc3 := 14) K d3_11 (by decide) (by decide) rfl (fun _ => ?_) (fun q => absurd q (by decide))
  refine oW.iloadN (pc' := 43) K d3_42 rfl rfl ?_
  refine oW.if_le (pc' := 53) (pc3 := 46) K d3_43 (by decide) (by decide) rfl (fun c43 => ?_) (fun c43 => ?_)
  · refine oW.dconst0 (pc' := 54) K d3_53 rfl ?_
    exact oW.retD K rfl d3_54 (by decide) (by decide) ⟨_, rfl, _, rfl, ⟨by subst_vars; exact oF_n c43, oMNN (by unfold oMag Jvm.Free.Fl.Mag64; decide : oMag 1 (0 : UInt64)) (by decide)⟩, rfl⟩
  · refine oW.dloadN (pc' := 47) K d3_46 rfl rfl ?_
    refine oW.iloadN (pc' := 48) K d3_47 rfl rfl ?_
    obtain ⟨v48, ev48⟩ : ∃ z : UInt64, z = FP.i2d ct_3 := ⟨_, rfl⟩
    have mv48 : oMag 1056 v48 := oMI2D ev48
    refine oW.i2d (pc' := 49) K d3_48 ev48 rfl ?_
    obtain ⟨v49, ev49⟩ : ∃ z : UInt64, z = FP.ddiv y_3 v48 := ⟨_, rfl⟩
    have mv49 : oMag 1066 v49 := oMDiv my_3 (oBigI ev48 c43) ev49 (by decide)
    refine oW.ddiv (pc' := 50) K d3_49 ev49 (oMNN mv49 (by decide)) rfl ?_
    refine oW.goto (pc' := 54) K d3_50 (by decide) (by decide) ?_
    exact oW.retD K rfl d3_54 (by decide) (by decide) ⟨_, rfl, _, rfl, ⟨by subst_vars; exact oF_p rfl rfl c43, oMNN mv49 (by decide)⟩, rfl⟩
set_option maxRecDepth 65536 in
set_option maxHeartbeats 40000000 in
theorem own_ev5 {l : Launch} {Z : State} {a0 : Array Value} {h0 : Heap} (hw : ∀ d ∈ tables_1, d.before a0 Z = true) (a b : Addr) (x0 x1 x2 x3 x4 : Int32) :
    oCtr l Z h0 [] (⟨"com/example/ordevo/ordevo/AveragePrecision", "evaluate", "([I)D"⟩ : MethodName) prog_1_method_2_code 6 (some .double) ({ frames := 0, cells := 0, slots := 0, locals := 0 } : Room) #[(.ref a), (.ref b)] [(b, .inl (.int, [(.int x0), (.int x1), (.int x2), (.int x3), (.int x4)])), (a, .inr ("com/example/ordevo/ordevo/AveragePrecision", []))] (oVal fun w d => ∃ r : UInt64, w = .double r ∧ (r = oFin (oC (oC (oC (oC (oC (0 : Int32) x0) x1) x2) x3) x4) (oS (oS (oS (oS (oS (0 : UInt64) (oC (0 : Int32) x0) (4607182418800017408 : UInt64) x0) (oC (oC (0 : Int32) x0) x1) (4611686018427387904 : UInt64) x1) (oC (oC (oC (0 : Int32) x0) x1) x2) (4613937818241073152 : UInt64) x2) (oC (oC (oC (oC (0 : Int32) x0) x1) x2) x3) (4616189618054758400 : UInt64) x3) (oC (oC (oC (oC (oC (0 : Int32) x0) x1) x2) x3) x4) (4617315517961601024 : UInt64) x4) ∧ Jvm.Free.Fl.NoNaN64 r) ∧ d = [(b, .inl (.int, [(.int x0), (.int x1), (.int x2), (.int x3), (.int x4)])), (a, .inr ("com/example/ordevo/ordevo/AveragePrecision", []))]) := by
  refine oCtr.of (Ls := #[.val (.ref a), .val (.ref b), .unset, .unset, .unset, .unset]) (plainFor_of_name (by first | (simp [plainName, overriddenIn]; done) | decide +kernel)) (fun m => by first | (simp [entryFrame, mkF, argsToLocals, Value.category]; done) | rfl) ?_
  intro p e s m below meth c K
  refine oW.iconst (v := (0 : Int32)) (pc' := 1) K d3_0 (by decide) rfl ?_
  refine oW.istoreN (Ls' := #[.val (.ref a), .val (.ref b), .val (.int (0 : Int32)), .unset, .unset, .unset]) (pc' := 2) K d3_1 rfl rfl ?_
  refine oW.dconst0 (pc' := 3) K d3_2 rfl ?_
  refine oW.dstoreN (Ls' := #[.val (.ref a), .val (.ref b), .val (.int (0 : Int32)), .val (.double (0 : UInt64)), .second, .unset]) (pc' := 4) K d3_3 rfl rfl ?_
  refine oW.iconst (v := (1 : Int32)) (pc' := 5) K d3_4 (by decide) rfl ?_
  refine oW.istore (Ls' := #[.val (.ref a), .val (.ref b), .val (.int (0 : Int32)), .val (.double (0 : UInt64)), .second, .val (.int (1 : Int32))]) (pc' := 7) K d3_5 rfl rfl ?_
  refine oW.iload (pc' := 9) K d3_7 rfl rfl ?_
  refine oW.aloadN (pc' := 10) K d3_9 rfl rfl rfl ?_
  refine oW.alen (i := 0) (v := (5 : Int32)) (pc' := 11) K d3_10 rfl rfl rfl ?_
  refine oW.icmp_gt (pc' := 42) (pc3 := 14) K d3_11 (by decide) (by decide) rfl (fun q => absurd q (by decide)) (fun _ => ?_)
  refine oW.aloadN (pc' := 15) K d3_14 rfl rfl rfl ?_
  refine oW.iload (pc' := 17) K d3_15 rfl rfl ?_
  refine oW.iconst (v := (1 : Int32)) (pc' := 18) K d3_17 (by decide) rfl ?_
  refine oW.isub (v := (0 : Int32)) (pc' := 19) K d3_18 (by decide) rfl ?_
  refine oW.iaload (i := 0) (k := 0) (pc' := 20) K d3_19 rfl rfl (by decide) rfl rfl ?_
  refine oW.join (F := fun z : Int32 × UInt64 => z.1 = oC (0 : Int32) x0 ∧ z.2 = oS (0 : UInt64) (oC (0 : Int32) x0) (4607182418800017408 : UInt64) x0 ∧ oMag 1059 z.2) (pcj := 36) (Lf := fun z => #[.val (.ref a), .val (.ref b), .val (.int z.1), .val (.double z.2), .second, .val (.int (1 : Int32))]) (Sf := fun z => []) (dsf := fun z => [(b, .inl (.int, [(.int x0), (.int x1), (.int x2), (.int x3), (.int x4)])), (a, .inr ("com/example/ordevo/ordevo/AveragePrecision", []))]) ?_ ?_
  · intro J
    refine oW.iconst (v := (1 : Int32)) (pc' := 21) K d3_20 (by decide) rfl ?_
    refine oW.icmp_lt (pc' := 36) (pc3 := 24) K d3_21 (by decide) (by decide) rfl (fun c21 => ?_) (fun c21 => ?_)
    · exact J ((0 : Int32), (0 : UInt64)) (⟨oC_z rfl c21, oS_z c21, Jvm.Free.Fl.Mag64.mono (by unfold oMag Jvm.Free.Fl.Mag64; decide : oMag 1 (0 : UInt64)) (by decide)⟩)
    · refine oW.iinc (v := (1 : Int32)) (Ls' := #[.val (.ref a), .val (.ref b), .val (.int (1 : Int32)), .val (.double (0 : UInt64)), .second, .val (.int (1 : Int32))]) (pc' := 27) K d3_24 rfl (by decide) rfl rfl ?_
      refine oW.dloadN (pc' := 28) K d3_27 rfl rfl ?_
      refine oW.iloadN (pc' := 29) K d3_28 rfl rfl ?_
      refine oW.i2d (v := (4607182418800017408 : UInt64)) (pc' := 30) K d3_29 (by decide +kernel) rfl ?_
      refine oW.iload (pc' := 32) K d3_30 rfl rfl ?_
      refine oW.i2d (v := (4607182418800017408 : UInt64)) (pc' := 33) K d3_32 (by decide +kernel) rfl ?_
      obtain ⟨v33, ev33⟩ : ∃ z : UInt64, z = FP.ddiv (4607182418800017408 : UInt64) (4607182418800017408 : UInt64) := ⟨_, rfl⟩
      have mv33 : oMag 1025 v33 := oMDiv (by unfold oMag Jvm.Free.Fl.Mag64; decide : oMag 1024 (4607182418800017408 : UInt64)) (by unfold Big64; decide : Big64 1023 (4607182418800017408 : UInt64)) ev33 (by decide)
      refine oW.ddiv (pc' := 34) K d3_33 ev33 (oMNN mv33 (by decide)) rfl ?_
      obtain ⟨v34, ev34⟩ : ∃ z : UInt64, z = FP.dadd (0 : UInt64) v33 := ⟨_, rfl⟩
      have mv34 : oMag 1027 v34 := oMAdd (A := 1025) (Jvm.Free.Fl.Mag64.mono (by unfold oMag Jvm.Free.Fl.Mag64; decide : oMag 1 (0 : UInt64)) (by decide)) mv33 ev34 (by decide)
      refine oW.dadd (pc' := 35) K d3_34 ev34 (oMNN mv34 (by decide)) rfl ?_
      refine oW.dstoreN (Ls' := #[.val (.ref a), .val (.ref b), .val (.int (1 : Int32)), .val (.double v34), .second, .val (.int (1 : Int32))]) (pc' := 36) K d3_35 rfl rfl ?_
      exact J ((1 : Int32), v34) (⟨oC_n (show (1 : Int32) = 0 + 1 by decide) c21, oS_n (show (4607182418800017408 : UInt64) = FP.i2d 1 by decide +kernel) ev33 ev34 c21 (oC_n (show (1 : Int32) = 0 + 1 by decide) c21), Jvm.Free.Fl.Mag64.mono mv34 (by decide)⟩)
  rintro ⟨ct, y⟩ hct
  dsimp only at hct ⊢
  obtain ⟨gct, gy, my⟩ := hct
  refine oW.iinc (v := (2 : Int32)) (Ls' := #[.val (.ref a), .val (.ref b), .val (.int ct), .val (.double y), .second, .val (.int (2 : Int32))]) (pc' := 39) K d3_36 rfl (by decide) rfl rfl ?_
  refine oW.goto (pc' := 7) K d3_39 (by decide) (by decide) ?_
  refine oW.iload (pc' := 9) K d3_7 rfl rfl ?_
  refine oW.aloadN (pc' := 10) K d3_9 rfl rfl rfl ?_
  refine oW.alen (i := 0) (v := (5 : Int32)) (pc' := 11) K d3_10 rfl rfl rfl ?_
  refine oW.icmp_gt (pc' := 42) (pc3 := 14) K d3_11 (by decide) (by decide) rfl (fun q => absurd q (by decide)) (fun _ => ?_)
  refine oW.aloadN (pc' := 15) K d3_14 rfl rfl rfl ?_
  refine oW.iload (pc' := 17) K d3_15 rfl rfl ?_
  refine oW.iconst (v := (1 : Int32)) (pc' := 18) K d3_17 (by decide) rfl ?_
  refine oW.isub (v := (1 : Int32)) (pc' := 19) K d3_18 (by decide) rfl ?_
  refine oW.iaload (i := 0) (k := 1) (pc' := 20) K d3_19 rfl rfl (by decide) rfl rfl ?_
  refine oW.join (F := fun z : Int32 × UInt64 => z.1 = oC ct x1 ∧ z.2 = oS y (oC ct x1) (4611686018427387904 : UInt64) x1 ∧ oMag 1061 z.2) (pcj := 36) (Lf := fun z => #[.val (.ref a), .val (.ref b), .val (.int z.1), .val (.double z.2), .second, .val (.int (2 : Int32))]) (Sf := fun z => []) (dsf := fun z => [(b, .inl (.int, [(.int x0), (.int x1), (.int x2), (.int x3), (.int x4)])), (a, .inr ("com/example/ordevo/ordevo/AveragePrecision", []))]) ?_ ?_
  · intro J
    refine oW.iconst (v := (1 : Int32)) (pc' := 21) K d3_20 (by decide) rfl ?_
    refine oW.icmp_lt (pc' := 36) (pc3 := 24) K d3_21 (by decide) (by decide) rfl (fun c21 => ?_) (fun c21 => ?_)
    · exact J (ct, y) (⟨oC_z rfl c21, oS_z c21, Jvm.Free.Fl.Mag64.mono my (by decide)⟩)
    · obtain ⟨v24, ev24⟩ : ∃ z : Int32, z = ct + Int32.ofInt 1 := ⟨_, rfl⟩
      refine oW.iinc (Ls' := #[.val (.ref a), .val (.ref b), .val (.int v24), .val (.double y), .second, .val (.int (2 : Int32))]) (pc' := 27) K d3_24 rfl ev24 rfl rfl ?_
      refine oW.dloadN (pc' := 28) K d3_27 rfl rfl ?_
      refine oW.iloadN (pc' := 29) K d3_28 rfl rfl ?_
      obtain ⟨v29, ev29⟩ : ∃ z : UInt64, z = FP.i2d v24 := ⟨_, rfl⟩
      have mv29 : oMag 1056 v29 := oMI2D ev29
      refine oW.i2d (pc' := 30) K d3_29 ev29 rfl ?_
      refine oW.iload (pc' := 32) K d3_30 rfl rfl ?_
      refine oW.i2d (v := (4611686018427387904 : UInt64)) (pc' := 33) K d3_32 (by decide +kernel) rfl ?_
      obtain ⟨v33, ev33⟩ : ∃ z : UInt64, z = FP.ddiv v29 (4611686018427387904 : UInt64) := ⟨_, rfl⟩
      have mv33 : oMag 1056 v33 := oMDiv mv29 (by unfold Big64; decide : Big64 1024 (4611686018427387904 : UInt64)) ev33 (by decide)
      refine oW.ddiv (pc' := 34) K d3_33 ev33 (oMNN mv33 (by decide)) rfl ?_
      obtain ⟨v34, ev34⟩ : ∃ z : UInt64, z = FP.dadd y v33 := ⟨_, rfl⟩
      have mv34 : oMag 1061 v34 := oMAdd (A := 1059) my (Jvm.Free.Fl.Mag64.mono mv33 (by decide)) ev34 (by decide)
      refine oW.dadd (pc' := 35) K d3_34 ev34 (oMNN mv34 (by decide)) rfl ?_
      refine oW.dstoreN (Ls' := #[.val (.ref a), .val (.ref b), .val (.int v24), .val (.double v34), .second, .val (.int (2 : Int32))]) (pc' := 36) K d3_35 rfl rfl ?_
      exact J (v24, v34) (⟨oC_n ev24 c21, oS_n ev29 ev33 ev34 c21 (oC_n ev24 c21), mv34⟩)
  rintro ⟨ct_1, y_1⟩ hct_1
  dsimp only at hct_1 ⊢
  obtain ⟨gct_1, gy_1, my_1⟩ := hct_1
  refine oW.iinc (v := (3 : Int32)) (Ls' := #[.val (.ref a), .val (.ref b), .val (.int ct_1), .val (.double y_1), .second, .val (.int (3 : Int32))]) (pc' := 39) K d3_36 rfl (by decide) rfl rfl ?_
  refine oW.goto (pc' := 7) K d3_39 (by decide) (by decide) ?_
  refine oW.iload (pc' := 9) K d3_7 rfl rfl ?_
  refine oW.aloadN (pc' := 10) K d3_9 rfl rfl rfl ?_
  refine oW.alen (i := 0) (v := (5 : Int32)) (pc' := 11) K d3_10 rfl rfl rfl ?_
  refine oW.icmp_gt (pc' := 42) (pc3 := 14) K d3_11 (by decide) (by decide) rfl (fun q => absurd q (by decide)) (fun _ => ?_)
  refine oW.aloadN (pc' := 15) K d3_14 rfl rfl rfl ?_
  refine oW.iload (pc' := 17) K d3_15 rfl rfl ?_
  refine oW.iconst (v := (1 : Int32)) (pc' := 18) K d3_17 (by decide) rfl ?_
  refine oW.isub (v := (2 : Int32)) (pc' := 19) K d3_18 (by decide) rfl ?_
  refine oW.iaload (i := 0) (k := 2) (pc' := 20) K d3_19 rfl rfl (by decide) rfl rfl ?_
  refine oW.join (F := fun z : Int32 × UInt64 => z.1 = oC ct_1 x2 ∧ z.2 = oS y_1 (oC ct_1 x2) (4613937818241073152 : UInt64) x2 ∧ oMag 1063 z.2) (pcj := 36) (Lf := fun z => #[.val (.ref a), .val (.ref b), .val (.int z.1), .val (.double z.2), .second, .val (.int (3 : Int32))]) (Sf := fun z => []) (dsf := fun z => [(b, .inl (.int, [(.int x0), (.int x1), (.int x2), (.int x3), (.int x4)])), (a, .inr ("com/example/ordevo/ordevo/AveragePrecision", []))]) ?_ ?_
  · intro J
    refine oW.iconst (v := (1 : Int32)) (pc' := 21) K d3_20 (by decide) rfl ?_
    refine oW.icmp_lt (pc' := 36) (pc3 := 24) K d3_21 (by decide) (by decide) rfl (fun c21 => ?_) (fun c21 => ?_)
    · exact J (ct_1, y_1) (⟨oC_z rfl c21, oS_z c21, Jvm.Free.Fl.Mag64.mono my_1 (by decide)⟩)
    · obtain ⟨v24, ev24⟩ : ∃ z : Int32, z = ct_1 + Int32.ofInt 1 := ⟨_, rfl⟩
      refine oW.iinc (Ls' := #[.val (.ref a), .val (.ref b), .val (.int v24), .val (.double y_1), .second, .val (.int (3 : Int32))]) (pc' := 27) K d3_24 rfl ev24 rfl rfl ?_
      refine oW.dloadN (pc' := 28) K d3_27 rfl rfl ?_
      refine oW.iloadN (pc' := 29) K d3_28 rfl rfl ?_
      obtain ⟨v29, ev29⟩ : ∃ z : UInt64, z = FP.i2d v24 := ⟨_, rfl⟩
      have mv29 : oMag 1056 v29 := oMI2D ev29
      refine oW.i2d (pc' := 30) K d3_29 ev29 rfl ?_
      refine oW.iload (pc' := 32) K d3_30 rfl rfl ?_
      refine oW.i2d (v := (4613937818241073152 : UInt64)) (pc' := 33) K d3_32 (by decide +kernel) rfl ?_
      obtain ⟨v33, ev33⟩ : ∃ z : UInt64, z = FP.ddiv v29 (4613937818241073152 : UInt64) := ⟨_, rfl⟩
      have mv33 : oMag 1056 v33 := oMDiv mv29 (by unfold Big64; decide : Big64 1024 (4613937818241073152 : UInt64)) ev33 (by decide)
      refine oW.ddiv (pc' := 34) K d3_33 ev33 (oMNN mv33 (by decide)) rfl ?_
      obtain ⟨v34, ev34⟩ : ∃ z : UInt64, z = FP.dadd y_1 v33 := ⟨_, rfl⟩
      have mv34 : oMag 1063 v34 := oMAdd (A := 1061) my_1 (Jvm.Free.Fl.Mag64.mono mv33 (by decide)) ev34 (by decide)
      refine oW.dadd (pc' := 35) K d3_34 ev34 (oMNN mv34 (by decide)) rfl ?_
      refine oW.dstoreN (Ls' := #[.val (.ref a), .val (.ref b), .val (.int v24), .val (.double v34), .second, .val (.int (3 : Int32))]) (pc' := 36) K d3_35 rfl rfl ?_
      exact J (v24, v34) (⟨oC_n ev24 c21, oS_n ev29 ev33 ev34 c21 (oC_n ev24 c21), mv34⟩)
  rintro ⟨ct_2, y_2⟩ hct_2
  dsimp only at hct_2 ⊢
  obtain ⟨gct_2, gy_2, my_2⟩ := hct_2
  refine oW.iinc (v := (4 : Int32)) (Ls' := #[.val (.ref a), .val (.ref b), .val (.int ct_2), .val (.double y_2), .second, .val (.int (4 : Int32))]) (pc' := 39) K d3_36 rfl (by decide) rfl rfl ?_
  refine oW.goto (pc' := 7) K d3_39 (by decide) (by decide) ?_
  refine oW.iload (pc' := 9) K d3_7 rfl rfl ?_
  refine oW.aloadN (pc' := 10) K d3_9 rfl rfl rfl ?_
  refine oW.alen (i := 0) (v := (5 : Int32)) (pc' := 11) K d3_10 rfl rfl rfl ?_
  refine oW.icmp_gt (pc' := 42) (pc3 := 14) K d3_11 (by decide) (by decide) rfl (fun q => absurd q (by decide)) (fun _ => ?_)
  refine oW.aloadN (pc' := 15) K d3_14 rfl rfl rfl ?_
  refine oW.iload (pc' := 17) K d3_15 rfl rfl ?_
  refine oW.iconst (v := (1 : Int32)) (pc' := 18) K d3_17 (by decide) rfl ?_
  refine oW.isub (v := (3 : Int32)) (pc' := 19) K d3_18 (by decide) rfl ?_
  refine oW.iaload (i := 0) (k := 3) (pc' := 20) K d3_19 rfl rfl (by decide) rfl rfl ?_
  refine oW.join (F := fun z : Int32 × UInt64 => z.1 = oC ct_2 x3 ∧ z.2 = oS y_2 (oC ct_2 x3) (4616189618054758400 : UInt64) x3 ∧ oMag 1065 z.2) (pcj := 36) (Lf := fun z => #[.val (.ref a), .val (.ref b), .val (.int z.1), .val (.double z.2), .second, .val (.int (4 : Int32))]) (Sf := fun z => []) (dsf := fun z => [(b, .inl (.int, [(.int x0), (.int x1), (.int x2), (.int x3), (.int x4)])), (a, .inr ("com/example/ordevo/ordevo/AveragePrecision", []))]) ?_ ?_
  · intro J
    refine oW.iconst (v := (1 : Int32)) (pc' := 21) K d3_20 (by decide) rfl ?_
    refine oW.icmp_lt (pc' := 36) (pc3 := 24) K d3_21 (by decide) (by decide) rfl (fun c21 => ?_) (fun c21 => ?_)
    · exact J (ct_2, y_2) (⟨oC_z rfl c21, oS_z c21, Jvm.Free.Fl.Mag64.mono my_2 (by decide)⟩)
    · obtain ⟨v24, ev24⟩ : ∃ z : Int32, z = ct_2 + Int32.ofInt 1 := ⟨_, rfl⟩
      refine oW.iinc (Ls' := #[.val (.ref a), .val (.ref b), .val (.int v24), .val (.double y_2), .second, .val (.int (4 : Int32))]) (pc' := 27) K d3_24 rfl ev24 rfl rfl ?_
      refine oW.dloadN (pc' := 28) K d3_27 rfl rfl ?_
      refine oW.iloadN (pc' := 29) K d3_28 rfl rfl ?_
      obtain ⟨v29, ev29⟩ : ∃ z : UInt64, z = FP.i2d v24 := ⟨_, rfl⟩
      have mv29 : oMag 1056 v29 := oMI2D ev29
      refine oW.i2d (pc' := 30) K d3_29 ev29 rfl ?_
      refine oW.iload (pc' := 32) K d3_30 rfl rfl ?_
      refine oW.i2d (v := (4616189618054758400 : UInt64)) (pc' := 33) K d3_32 (by decide +kernel) rfl ?_
      obtain ⟨v33, ev33⟩ : ∃ z : UInt64, z = FP.ddiv v29 (4616189618054758400 : UInt64) := ⟨_, rfl⟩
      have mv33 : oMag 1055 v33 := oMDiv mv29 (by unfold Big64; decide : Big64 1025 (4616189618054758400 : UInt64)) ev33 (by decide)
      refine oW.ddiv (pc' := 34) K d3_33 ev33 (oMNN mv33 (by decide)) rfl ?_
      obtain ⟨v34, ev34⟩ : ∃ z : UInt64, z = FP.dadd y_2 v33 := ⟨_, rfl⟩
      have mv34 : oMag 1065 v34 := oMAdd (A := 1063) my_2 (Jvm.Free.Fl.Mag64.mono mv33 (by decide)) ev34 (by decide)
      refine oW.dadd (pc' := 35) K d3_34 ev34 (oMNN mv34 (by decide)) rfl ?_
      refine oW.dstoreN (Ls' := #[.val (.ref a), .val (.ref b), .val (.int v24), .val (.double v34), .second, .val (.int (4 : Int32))]) (pc' := 36) K d3_35 rfl rfl ?_
      exact J (v24, v34) (⟨oC_n ev24 c21, oS_n ev29 ev33 ev34 c21 (oC_n ev24 c21), mv34⟩)
  rintro ⟨ct_3, y_3⟩ hct_3
  dsimp only at hct_3 ⊢
  obtain ⟨gct_3, gy_3, my_3⟩ := hct_3
  refine oW.iinc (v := (5 : Int32)) (Ls' := #[.val (.ref a), .val (.ref b), .val (.int ct_3), .val (.double y_3), .second, .val (.int (5 : Int32))]) (pc' := 39) K d3_36 rfl (by decide) rfl rfl ?_
  refine oW.goto (pc' := 7) K d3_39 (by decide) (by decide) ?_
  refine oW.iload (pc' := 9) K d3_7 rfl rfl ?_
  refine oW.aloadN (pc' := 10) K d3_9 rfl rfl rfl ?_
  refine oW.alen (i := 0) (v := (5 : Int32)) (pc' := 11) K d3_10 rfl rfl rfl ?_
  refine oW.icmp_gt (pc' := 42) (pc3 := 14) K d3_11 (by decide) (by decide) rfl (fun q => absurd q (by decide)) (fun _ => ?_)
  refine oW.aloadN (pc' := 15) K d3_14 rfl rfl rfl ?_
  refine oW.iload (pc' := 17) K d3_15 rfl rfl ?_
  refine oW.iconst (v := (1 : Int32)) (pc' := 18) K d3_17 (by decide) rfl ?_
  refine oW.isub (v := (4 : Int32)) (pc' := 19) K d3_18 (by decide) rfl ?_
  refine oW.iaload (i := 0) (k := 4) (pc' := 20) K d3_19 rfl rfl (by decide) rfl rfl ?_
  refine oW.join (F := fun z : Int32 × UInt64 => z.1 = oC ct_3 x4 ∧ z.2 = oS y_3 (oC ct_3 x4) (4617315517961601024 : UInt64) x4 ∧ oMag 1067 z.2) (pcj := 36) (Lf := fun z => #[.val (.ref a), .val (.ref b), .val (.int z.1), .val (.double z.2), .second, .val (.int (5 : Int32))]) (Sf := fun z => []) (dsf := fun z => [(b, .inl (.int, [(.int x0), (.int x1), (.int x2), (.int x3), (.int x4)])), (a, .inr ("com/example/ordevo/ordevo/AveragePrecision", []))]) ?_ ?_
  · intro J
    refine oW.iconst (v := (1 : Int32)) (pc' := 21) K d3_20 (by decide) rfl ?_
    refine oW.icmp_lt (pc' := 36) (pc3 := 24) K d3_21 (by decide) (by decide) rfl (fun c21 => ?_) (fun c21 => ?_)
    · exact J (ct_3, y_3) (⟨oC_z rfl c21, oS_z c21, Jvm.Free.Fl.Mag64.mono my_3 (by decide)⟩)
    · obtain ⟨v24, ev24⟩ : ∃ z : Int32, z = ct_3 + Int32.ofInt 1 := ⟨_, rfl⟩
      refine oW.iinc (Ls' := #[.val (.ref a), .val (.ref b), .val (.int v24), .val (.double y_3), .second, .val (.int (5 : Int32))]) (pc' := 27) K d3_24 rfl ev24 rfl rfl ?_
      refine oW.dloadN (pc' := 28) K d3_27 rfl rfl ?_
      refine oW.iloadN (pc' := 29) K d3_28 rfl rfl ?_
      obtain ⟨v29, ev29⟩ : ∃ z : UInt64, z = FP.i2d v24 := ⟨_, rfl⟩
      have mv29 : oMag 1056 v29 := oMI2D ev29
      refine oW.i2d (pc' := 30) K d3_29 ev29 rfl ?_
      refine oW.iload (pc' := 32) K d3_30 rfl rfl ?_
      refine oW.i2d (v := (4617315517961601024 : UInt64)) (pc' := 33) K d3_32 (by decide +kernel) rfl ?_
      obtain ⟨v33, ev33⟩ : ∃ z : UInt64, z = FP.ddiv v29 (4617315517961601024 : UInt64) := ⟨_, rfl⟩
      have mv33 : oMag 1055 v33 := oMDiv mv29 (by unfold Big64; decide : Big64 1025 (4617315517961601024 : UInt64)) ev33 (by decide)
      refine oW.ddiv (pc' := 34) K d3_33 ev33 (oMNN mv33 (by decide)) rfl ?_
      obtain ⟨v34, ev34⟩ : ∃ z : UInt64, z = FP.dadd y_3 v33 := ⟨_, rfl⟩
      have mv34 : oMag 1067 v34 := oMAdd (A := 1065) my_3 (Jvm.Free.Fl.Mag64.mono mv33 (by decide)) ev34 (by decide)
      refine oW.dadd (pc' := 35) K d3_34 ev34 (oMNN mv34 (by decide)) rfl ?_
      refine oW.dstoreN (Ls' := #[.val (.ref a), .val (.ref b), .val (.int v24), .val (.double v34), .second, .val (.int (5 : Int32))]) (pc' := 36) K d3_35 rfl rfl ?_
      exact J (v24, v34) (⟨oC_n ev24 c21, oS_n ev29 ev33 ev34 c21 (oC_n ev24 c21), mv34⟩)
  rintro ⟨ct_4, y_4⟩ hct_4
  dsimp only at hct_4 ⊢
  obtain ⟨gct_4, gy_4, my_4⟩ := hct_4
  refine oW.iinc (v := (6 : Int32)) (Ls' := #[.val (.ref a), .val (.ref b), .val (.int ct_4), .val (.double y_4), .second, .val (.int (6 : Int32))]) (pc' := 39) K d3_36 rfl (by decide) rfl rfl ?_
  refine oW.goto (pc' := 7) K d3_39 (by decide) (by decide) ?_
  refine oW.iload (pc' := 9) K d3_7 rfl rfl ?_
  refine oW.aloadN (pc' := 10) K d3_9 rfl rfl rfl ?_
  refine oW.alen (i := 0) (v := (5 : Int32)) (pc' := 11) K d3_10 rfl rfl rfl ?_
  refine oW.icmp_gt (pc' := 42) (pc3 := 14) K d3_11 (by decide) (by decide) rfl (fun _ => ?_) (fun q => absurd q (by decide))
  refine oW.iloadN (pc' := 43) K d3_42 rfl rfl ?_
  refine oW.if_le (pc' := 53) (pc3 := 46) K d3_43 (by decide) (by decide) rfl (fun c43 => ?_) (fun c43 => ?_)
  · refine oW.dconst0 (pc' := 54) K d3_53 rfl ?_
    exact oW.retD K rfl d3_54 (by decide) (by decide) ⟨_, rfl, _, rfl, ⟨by subst_vars; exact oF_n c43, oMNN (by unfold oMag Jvm.Free.Fl.Mag64; decide : oMag 1 (0 : UInt64)) (by decide)⟩, rfl⟩
  · refine oW.dloadN (pc' := 47) K d3_46 rfl rfl ?_
    refine oW.iloadN (pc' := 48) K d3_47 rfl rfl ?_
    obtain ⟨v48, ev48⟩ : ∃ z : UInt64, z = FP.i2d ct_4 := ⟨_, rfl⟩
    have mv48 : oMag 1056 v48 := oMI2D ev48
    refine oW.i2d (pc' := 49) K d3_48 ev48 rfl ?_
    obtain ⟨v49, ev49⟩ : ∃ z : UInt64, z = FP.ddiv y_4 v48 := ⟨_, rfl⟩
    have mv49 : oMag 1068 v49 := oMDiv my_4 (oBigI ev48 c43) ev49 (by decide)
    refine oW.ddiv (pc' := 50) K d3_49 ev49 (oMNN mv49 (by decide)) rfl ?_
    refine oW.goto (pc' := 54) K d3_50 (by decide) (by decide) ?_
    exact oW.retD K rfl d3_54 (by decide) (by decide) ⟨_, rfl, _, rfl, ⟨by subst_vars; exact oF_p rfl rfl c43, oMNN mv49 (by decide)⟩, rfl⟩
theorem oLd_0 {Z : State} {a0 : Array Value} (hw : ∀ d ∈ tables_1, d.before a0 Z = true) : ∀ f ∈ ([] : List (String × String × String × Value)), Laid Z a0 "com/example/ordevo/ordevo/AveragePrecision" f.1 f.2.1 f.2.2.1 ∧ ∃ t, parseFieldDescriptor f.2.2.1 = some t ∧ f.2.2.2 = defaultValue t := fun _ h => nomatch h
theorem pd_0 : parseMethodDescriptor "()V" = some ⟨[], none⟩ := by decide +kernel
theorem pd_1 : parseMethodDescriptor "([I)D" = some ⟨[(.array .int)], some .double⟩ := by decide +kernel
set_option maxRecDepth 65536 in
set_option maxHeartbeats 40000000 in
theorem own_law {l : Launch} {Z : State} {a0 : Array Value} {h0 : Heap} (hw : ∀ d ∈ tables_1, d.before a0 Z = true) (p0 : Int32) (p1 : Int32) (p2 : Int32) (p3 : Int32) (p4 : Int32) (p5 : Int32) :
    oCtr l Z h0 tables_1 x code maxLocals ret room_1 #[(.int p0), (.int p1), (.int p2), (.int p3), (.int p4), (.int p5)] [] (oVal fun w _ => w = .int 1) := by
  refine oCtr.of (Ls := #[.val (.int p0), .val (.int p1), .val (.int p2), .val (.int p3), .val (.int p4), .val (.int p5), .unset, .unset, .unset, .unset, .unset, .unset, .unset, .unset, .unset, .unset, .unset, .unset, .unset, .unset, .unset, .unset, .unset, .unset, .unset]) (plainFor_of_name (by first | (simp [plainName, overriddenIn]; done) | decide +kernel)) (fun m => by first | (simp [entryFrame, mkF, argsToLocals, Value.category, maxLocals]; done) | rfl) ?_
  intro p e s m below meth c K
  refine oW.iloadN (pc' := 1) K at_0 rfl rfl ?_
  refine oW.ldcI (pc' := 3) K (hw _ (List.mem_of_getElem? (i := 0) rfl)) at_1 rfl ?_
  obtain ⟨v3, ev3⟩ : ∃ z : Int32, z = p0 &&& (2147483647 : Int32) := ⟨_, rfl⟩
  refine oW.iand (pc' := 4) K at_3 ev3 rfl ?_
  have b3 := oMaskR 2147483647 (by decide) ev3
  refine oW.bipush (v := (6 : Int32)) (pc' := 6) K at_4 (by decide) rfl ?_
  obtain ⟨v6, ev6⟩ : ∃ z : Int32, z = v3 % (6 : Int32) := ⟨_, rfl⟩
  refine oW.irem (pc' := 7) K at_6 (by decide) ev6 rfl ?_
  have b6 := oRem 6 ev6 (by decide) b3.1
  refine oW.istore (Ls' := #[.val (.int p0), .val (.int p1), .val (.int p2), .val (.int p3), .val (.int p4), .val (.int p5), .val (.int v6), .unset, .unset, .unset, .unset, .unset, .unset, .unset, .unset, .unset, .unset, .unset, .unset, .unset, .unset, .unset, .unset, .unset, .unset]) (pc' := 9) K at_7 rfl rfl ?_
  have hv6 : v6 = 0 ∨ v6 = 1 ∨ v6 = 2 ∨ v6 = 3 ∨ v6 = 4 ∨ v6 = 5 := by simp only [oEq32, Int32.reduceToInt]; omega
  rcases hv6 with hv6 | hv6 | hv6 | hv6 | hv6 | hv6
  · subst hv6
    refine oW.iload (pc' := 11) K at_9 rfl rfl ?_
    refine oW.newarr (n := 0) (cells' := 1) (slots' := 0) (dsf := fun z => [(z, .inl (.int, []))]) (pc' := 13) K (hw _ (List.mem_of_getElem? (i := 1) rfl)) at_11 rfl (by decide) (by decide) (by decide) (by decide) rfl rfl (fun _ => rfl) rfl ?_
    intro a11 ha11
    refine oW.astore (Ls' := #[.val (.int p0), .val (.int p1), .val (.int p2), .val (.int p3), .val (.int p4), .val (.int p5), .val (.int (0 : Int32)), .val (.ref a11), .unset, .unset, .unset, .unset, .unset, .unset, .unset, .unset, .unset, .unset, .unset, .unset, .unset, .unset, .unset, .unset, .unset]) (pc' := 15) K at_13 rfl rfl rfl ?_
    refine oW.iload (pc' := 17) K at_15 rfl rfl ?_
    refine oW.if_le (pc' := 25) (pc3 := 20) K at_17 (by decide) (by decide) rfl (fun _ => ?_) (fun q => absurd q (by decide))
    refine oW.iload (pc' := 27) K at_25 rfl rfl ?_
    refine oW.iconst (v := (1 : Int32)) (pc' := 28) K at_27 (by decide) rfl ?_
    refine oW.icmp_le (pc' := 36) (pc3 := 31) K at_28 (by decide) (by decide) rfl (fun _ => ?_) (fun q => absurd q (by decide))
    refine oW.iload (pc' := 38) K at_36 rfl rfl ?_
    refine oW.iconst (v := (2 : Int32)) (pc' := 39) K at_38 (by decide) rfl ?_
    refine oW.icmp_le (pc' := 47) (pc3 := 42) K at_39 (by decide) (by decide) rfl (fun _ => ?_) (fun q => absurd q (by decide))
    refine oW.iload (pc' := 49) K at_47 rfl rfl ?_
    refine oW.iconst (v := (3 : Int32)) (pc' := 50) K at_49 (by decide) rfl ?_
    refine oW.icmp_le (pc' := 59) (pc3 := 53) K at_50 (by decide) (by decide) rfl (fun _ => ?_) (fun q => absurd q (by decide))
    refine oW.iload (pc' := 61) K at_59 rfl rfl ?_
    refine oW.iconst (v := (4 : Int32)) (pc' := 62) K at_61 (by decide) rfl ?_
    refine oW.icmp_le (pc' := 71) (pc3 := 65) K at_62 (by decide) (by decide) rfl (fun _ => ?_) (fun q => absurd q (by decide))
    refine oW.iload (pc' := 73) K at_71 rfl rfl ?_
    refine oW.iconst (v := (1 : Int32)) (pc' := 74) K at_73 (by decide) rfl ?_
    refine oW.icmp_lt (pc' := 86) (pc3 := 77) K at_74 (by decide) (by decide) rfl (fun _ => ?_) (fun q => absurd q (by decide))
    refine oW.iconst (v := (0 : Int32)) (pc' := 87) K at_86 (by decide) rfl ?_
    refine oW.istore (Ls' := #[.val (.int p0), .val (.int p1), .val (.int p2), .val (.int p3), .val (.int p4), .val (.int p5), .val (.int (0 : Int32)), .val (.ref a11), .val (.int (0 : Int32)), .unset, .unset, .unset, .unset, .unset, .unset, .unset, .unset, .unset, .unset, .unset, .unset, .unset, .unset, .unset, .unset]) (pc' := 89) K at_87 rfl rfl ?_
    refine oW.iload (pc' := 91) K at_89 rfl rfl ?_
    refine oW.iconst (v := (2 : Int32)) (pc' := 92) K at_91 (by decide) rfl ?_
    refine oW.icmp_lt (pc' := 104) (pc3 := 95) K at_92 (by decide) (by decide) rfl (fun _ => ?_) (fun q => absurd q (by decide))
    refine oW.iconst (v := (0 : Int32)) (pc' := 105) K at_104 (by decide) rfl ?_
    refine oW.istore (Ls' := #[.val (.int p0), .val (.int p1), .val (.int p2), .val (.int p3), .val (.int p4), .val (.int p5), .val (.int (0 : Int32)), .val (.ref a11), .val (.int (0 : Int32)), .val (.int (0 : Int32)), .unset, .unset, .unset, .unset, .unset, .unset, .unset, .unset, .unset, .unset, .unset, .unset, .unset, .unset, .unset]) (pc' := 107) K at_105 rfl rfl ?_
    refine oW.iload (pc' := 109) K at_107 rfl rfl ?_
    refine oW.iconst (v := (3 : Int32)) (pc' := 110) K at_109 (by decide) rfl ?_
    refine oW.icmp_lt (pc' := 122) (pc3 := 113) K at_110 (by decide) (by decide) rfl (fun _ => ?_) (fun q => absurd q (by decide))
    refine oW.iconst (v := (0 : Int32)) (pc' := 123) K at_122 (by decide) rfl ?_
    refine oW.istore (Ls' := #[.val (.int p0), .val (.int p1), .val (.int p2), .val (.int p3), .val (.int p4), .val (.int p5), .val (.int (0 : Int32)), .val (.ref a11), .val (.int (0 : Int32)), .val (.int (0 : Int32)), .val (.int (0 : Int32)), .unset, .unset, .unset, .unset, .unset, .unset, .unset, .unset, .unset, .unset, .unset, .unset, .unset, .unset]) (pc' := 125) K at_123 rfl rfl ?_
    refine oW.iload (pc' := 127) K at_125 rfl rfl ?_
    refine oW.iconst (v := (4 : Int32)) (pc' := 128) K at_127 (by decide) rfl ?_
    refine oW.icmp_lt (pc' := 141) (pc3 := 131) K at_128 (by decide) (by decide) rfl (fun _ => ?_) (fun q => absurd q (by decide))
    refine oW.iconst (v := (0 : Int32)) (pc' := 142) K at_141 (by decide) rfl ?_
    refine oW.istore (Ls' := #[.val (.int p0), .val (.int p1), .val (.int p2), .val (.int p3), .val (.int p4), .val (.int p5), .val (.int (0 : Int32)), .val (.ref a11), .val (.int (0 : Int32)), .val (.int (0 : Int32)), .val (.int (0 : Int32)), .val (.int (0 : Int32)), .unset, .unset, .unset, .unset, .unset, .unset, .unset, .unset, .unset, .unset, .unset, .unset, .unset]) (pc' := 144) K at_142 rfl rfl ?_
    refine oW.iload (pc' := 146) K at_144 rfl rfl ?_
    refine oW.iconst (v := (5 : Int32)) (pc' := 147) K at_146 (by decide) rfl ?_
    refine oW.icmp_lt (pc' := 160) (pc3 := 150) K at_147 (by decide) (by decide) rfl (fun _ => ?_) (fun q => absurd q (by decide))
    refine oW.iconst (v := (0 : Int32)) (pc' := 161) K at_160 (by decide) rfl ?_
    refine oW.istore (Ls' := #[.val (.int p0), .val (.int p1), .val (.int p2), .val (.int p3), .val (.int p4), .val (.int p5), .val (.int (0 : Int32)), .val (.ref a11), .val (.int (0 : Int32)), .val (.int (0 : Int32)), .val (.int (0 : Int32)), .val (.int (0 : Int32)), .val (.int (0 : Int32)), .unset, .unset, .unset, .unset, .unset, .unset, .unset, .unset, .unset, .unset, .unset, .unset]) (pc' := 163) K at_161 rfl rfl ?_
    refine oW.iload (pc' := 165) K at_163 rfl rfl ?_
    refine oW.if_eq (pc' := 172) (pc3 := 168) K at_165 (by decide) (by decide) rfl (fun _ => ?_) (fun q => absurd q (by decide))
    refine oW.iconst (v := (0 : Int32)) (pc' := 173) K at_172 (by decide) rfl ?_
    refine oW.istore (Ls' := #[.val (.int p0), .val (.int p1), .val (.int p2), .val (.int p3), .val (.int p4), .val (.int p5), .val (.int (0 : Int32)), .val (.ref a11), .val (.int (0 : Int32)), .val (.int (0 : Int32)), .val (.int (0 : Int32)), .val (.int (0 : Int32)), .val (.int (0 : Int32)), .val (.int (0 : Int32)), .unset, .unset, .unset, .unset, .unset, .unset, .unset, .unset, .unset, .unset, .unset]) (pc' := 175) K at_173 rfl rfl ?_
    refine oW.iload (pc' := 177) K at_175 rfl rfl ?_
    refine oW.iload (pc' := 179) K at_177 rfl rfl ?_
    refine oW.if_eq (pc' := 186) (pc3 := 182) K at_179 (by decide) (by decide) rfl (fun _ => ?_) (fun q => absurd q (by decide))
    refine oW.iconst (v := (0 : Int32)) (pc' := 187) K at_186 (by decide) rfl ?_
    refine oW.iadd (v := (0 : Int32)) (pc' := 188) K at_187 (by decide) rfl ?_
    refine oW.istore (Ls' := #[.val (.int p0), .val (.int p1), .val (.int p2), .val (.int p3), .val (.int p4), .val (.int p5), .val (.int (0 : Int32)), .val (.ref a11), .val (.int (0 : Int32)), .val (.int (0 : Int32)), .val (.int (0 : Int32)), .val (.int (0 : Int32)), .val (.int (0 : Int32)), .val (.int (0 : Int32)), .val (.int (0 : Int32)), .unset, .unset, .unset, .unset, .unset, .unset, .unset, .unset, .unset, .unset]) (pc' := 190) K at_188 rfl rfl ?_
    refine oW.iload (pc' := 192) K at_190 rfl rfl ?_
    refine oW.iload (pc' := 194) K at_192 rfl rfl ?_
    refine oW.if_eq (pc' := 201) (pc3 := 197) K at_194 (by decide) (by decide) rfl (fun _ => ?_) (fun q => absurd q (by decide))
    refine oW.iconst (v := (0 : Int32)) (pc' := 202) K at_201 (by decide) rfl ?_
    refine oW.iadd (v := (0 : Int32)) (pc' := 203) K at_202 (by decide) rfl ?_
    refine oW.istore (Ls' := #[.val (.int p0), .val (.int p1), .val (.int p2), .val (.int p3), .val (.int p4), .val (.int p5), .val (.int (0 : Int32)), .val (.ref a11), .val (.int (0 : Int32)), .val (.int (0 : Int32)), .val (.int (0 : Int32)), .val (.int (0 : Int32)), .val (.int (0 : Int32)), .val (.int (0 : Int32)), .val (.int (0 : Int32)), .val (.int (0 : Int32)), .unset, .unset, .unset, .unset, .unset, .unset, .unset, .unset, .unset]) (pc' := 205) K at_203 rfl rfl ?_
    refine oW.iload (pc' := 207) K at_205 rfl rfl ?_
    refine oW.iload (pc' := 209) K at_207 rfl rfl ?_
    refine oW.if_eq (pc' := 216) (pc3 := 212) K at_209 (by decide) (by decide) rfl (fun _ => ?_) (fun q => absurd q (by decide))
    refine oW.iconst (v := (0 : Int32)) (pc' := 217) K at_216 (by decide) rfl ?_
    refine oW.iadd (v := (0 : Int32)) (pc' := 218) K at_217 (by decide) rfl ?_
    refine oW.istore (Ls' := #[.val (.int p0), .val (.int p1), .val (.int p2), .val (.int p3), .val (.int p4), .val (.int p5), .val (.int (0 : Int32)), .val (.ref a11), .val (.int (0 : Int32)), .val (.int (0 : Int32)), .val (.int (0 : Int32)), .val (.int (0 : Int32)), .val (.int (0 : Int32)), .val (.int (0 : Int32)), .val (.int (0 : Int32)), .val (.int (0 : Int32)), .val (.int (0 : Int32)), .unset, .unset, .unset, .unset, .unset, .unset, .unset, .unset]) (pc' := 220) K at_218 rfl rfl ?_
    refine oW.iload (pc' := 222) K at_220 rfl rfl ?_
    refine oW.iload (pc' := 224) K at_222 rfl rfl ?_
    refine oW.if_eq (pc' := 231) (pc3 := 227) K at_224 (by decide) (by decide) rfl (fun _ => ?_) (fun q => absurd q (by decide))
    refine oW.iconst (v := (0 : Int32)) (pc' := 232) K at_231 (by decide) rfl ?_
    refine oW.iadd (v := (0 : Int32)) (pc' := 233) K at_232 (by decide) rfl ?_
    refine oW.istore (Ls' := #[.val (.int p0), .val (.int p1), .val (.int p2), .val (.int p3), .val (.int p4), .val (.int p5), .val (.int (0 : Int32)), .val (.ref a11), .val (.int (0 : Int32)), .val (.int (0 : Int32)), .val (.int (0 : Int32)), .val (.int (0 : Int32)), .val (.int (0 : Int32)), .val (.int (0 : Int32)), .val (.int (0 : Int32)), .val (.int (0 : Int32)), .val (.int (0 : Int32)), .val (.int (0 : Int32)), .unset, .unset, .unset, .unset, .unset, .unset, .unset]) (pc' := 235) K at_233 rfl rfl ?_
    refine oW.dconst0 (pc' := 236) K at_235 rfl ?_
    refine oW.dstore (Ls' := #[.val (.int p0), .val (.int p1), .val (.int p2), .val (.int p3), .val (.int p4), .val (.int p5), .val (.int (0 : Int32)), .val (.ref a11), .val (.int (0 : Int32)), .val (.int (0 : Int32)), .val (.int (0 : Int32)), .val (.int (0 : Int32)), .val (.int (0 : Int32)), .val (.int (0 : Int32)), .val (.int (0 : Int32)), .val (.int (0 : Int32)), .val (.int (0 : Int32)), .val (.int (0 : Int32)), .val (.double (0 : UInt64)), .second, .unset, .unset, .unset, .unset, .unset]) (pc' := 238) K at_236 rfl rfl ?_
    refine oW.iload (pc' := 240) K at_238 rfl rfl ?_
    refine oW.if_eq (pc' := 253) (pc3 := 243) K at_240 (by decide) (by decide) rfl (fun _ => ?_) (fun q => absurd q (by decide))
    refine oW.iload (pc' := 255) K at_253 rfl rfl ?_
    refine oW.if_eq (pc' := 270) (pc3 := 258) K at_255 (by decide) (by decide) rfl (fun _ => ?_) (fun q => absurd q (by decide))
    refine oW.iload (pc' := 272) K at_270 rfl rfl ?_
    refine oW.if_eq (pc' := 287) (pc3 := 275) K at_272 (by decide) (by decide) rfl (fun _ => ?_) (fun q => absurd q (by decide))
    refine oW.iload (pc' := 289) K at_287 rfl rfl ?_
    refine oW.if_eq (pc' := 304) (pc3 := 292) K at_289 (by decide) (by decide) rfl (fun _ => ?_) (fun q => absurd q (by decide))
    refine oW.iload (pc' := 306) K at_304 rfl rfl ?_
    refine oW.if_eq (pc' := 321) (pc3 := 309) K at_306 (by decide) (by decide) rfl (fun _ => ?_) (fun q => absurd q (by decide))
    refine oW.iload (pc' := 323) K at_321 rfl rfl ?_
    refine oW.if_le (pc' := 335) (pc3 := 326) K at_323 (by decide) (by decide) rfl (fun _ => ?_) (fun q => absurd q (by decide))
    refine oW.dconst0 (pc' := 336) K at_335 rfl ?_
    refine oW.dstore (Ls' := #[.val (.int p0), .val (.int p1), .val (.int p2), .val (.int p3), .val (.int p4), .val (.int p5), .val (.int (0 : Int32)), .val (.ref a11), .val (.int (0 : Int32)), .val (.int (0 : Int32)), .val (.int (0 : Int32)), .val (.int (0 : Int32)), .val (.int (0 : Int32)), .val (.int (0 : Int32)), .val (.int (0 : Int32)), .val (.int (0 : Int32)), .val (.int (0 : Int32)), .val (.int (0 : Int32)), .val (.double (0 : UInt64)), .second, .val (.double (0 : UInt64)), .second, .unset, .unset, .unset]) (pc' := 338) K at_336 rfl rfl ?_
    refine oW.new (fs := []) (cells' := 2) (slots' := 0) (dsf := fun z => [(a11, .inl (.int, [])), (z, .inr ("com/example/ordevo/ordevo/AveragePrecision", []))]) (pc' := 341) K (hw _ (List.mem_of_getElem? (i := 2) rfl)) (hw _ (List.mem_of_getElem? (i := 3) rfl)) (hw _ (List.mem_of_getElem? (i := 4) rfl)) (oLd_0 hw) at_338 (by decide) (by decide) rfl rfl (fun _ => rfl) rfl ?_
    intro a338 ha338
    refine oW.dup (pc' := 342) K at_341 rfl rfl ?_
    refine oW.callI (a := a338) (argsL := []) (S := [(.ref a338)]) (rm := ({ frames := 1, cells := 0, slots := 0, locals := 12 } : Room)) (W := 1) (cells' := 2) (slots' := 0) (pc' := 345) K rfl (hw _ (List.mem_of_getElem? (i := 5) rfl)) (hw _ (List.mem_of_getElem? (i := 6) rfl)) (hw _ (List.mem_of_getElem? (i := 4) rfl)) (hw _ (List.mem_of_getElem? (i := 7) rfl)) (by decide) (own_init hw a338 _) (lenOf pd_0 rfl) at_342 rfl rfl (Nat.le_of_eq rfl) (by decide) (by decide) (by decide) (by decide) rfl rfl rfl ?_
    rintro _ rfl
    refine oW.aload (pc' := 347) K at_345 rfl rfl rfl ?_
    refine oW.callV (a := a338) (argsL := [(.ref a11)]) (S := []) (rm := ({ frames := 0, cells := 0, slots := 0, locals := 0 } : Room)) (W := 0) (cells' := 2) (slots' := 0) (pc' := 350) K (hw _ (List.mem_of_getElem? (i := 11) rfl)) (hw _ (List.mem_of_getElem? (i := 12) rfl)) (hw _ (List.mem_of_getElem? (i := 14) rfl)) (hw _ (List.mem_of_getElem? (i := 13) rfl)) (hw _ (List.mem_of_getElem? (i := 15) rfl)) (hw _ (List.mem_of_getElem? (i := 4) rfl)) (by decide) (oNF (hw _ (List.mem_of_getElem? (i := 14) rfl))) (fun _ M => oMem.exa (i := 1) rfl M) (own_ev0 hw a338 a11) (lenOf pd_1 rfl) at_347 rfl rfl (Nat.le_of_eq rfl) (by decide) (by decide) (by decide) (by decide) rfl rfl rfl ?_
    rintro _ _ ⟨got, rfl, ⟨ggot, ngot⟩, rfl⟩
    refine oW.dstore (Ls' := #[.val (.int p0), .val (.int p1), .val (.int p2), .val (.int p3), .val (.int p4), .val (.int p5), .val (.int (0 : Int32)), .val (.ref a11), .val (.int (0 : Int32)), .val (.int (0 : Int32)), .val (.int (0 : Int32)), .val (.int (0 : Int32)), .val (.int (0 : Int32)), .val (.int (0 : Int32)), .val (.int (0 : Int32)), .val (.int (0 : Int32)), .val (.int (0 : Int32)), .val (.int (0 : Int32)), .val (.double (0 : UInt64)), .second, .val (.double (0 : UInt64)), .second, .val (.double got), .second, .unset]) (pc' := 352) K at_350 rfl rfl ?_
    refine oW.iload (pc' := 354) K at_352 rfl rfl ?_
    refine oW.iconst (v := (1 : Int32)) (pc' := 355) K at_354 (by decide) rfl ?_
    refine oW.icmp_lt (pc' := 366) (pc3 := 358) K at_355 (by decide) (by decide) rfl (fun _ => ?_) (fun q => absurd q (by decide))
    refine oW.iload (pc' := 368) K at_366 rfl rfl ?_
    refine oW.iconst (v := (2 : Int32)) (pc' := 369) K at_368 (by decide) rfl ?_
    refine oW.icmp_lt (pc' := 380) (pc3 := 372) K at_369 (by decide) (by decide) rfl (fun _ => ?_) (fun q => absurd q (by decide))
    refine oW.iload (pc' := 382) K at_380 rfl rfl ?_
    refine oW.iconst (v := (3 : Int32)) (pc' := 383) K at_382 (by decide) rfl ?_
    refine oW.icmp_lt (pc' := 394) (pc3 := 386) K at_383 (by decide) (by decide) rfl (fun _ => ?_) (fun q => absurd q (by decide))
    refine oW.iload (pc' := 396) K at_394 rfl rfl ?_
    refine oW.iconst (v := (4 : Int32)) (pc' := 397) K at_396 (by decide) rfl ?_
    refine oW.icmp_lt (pc' := 409) (pc3 := 400) K at_397 (by decide) (by decide) rfl (fun _ => ?_) (fun q => absurd q (by decide))
    refine oW.iload (pc' := 411) K at_409 rfl rfl ?_
    refine oW.iconst (v := (5 : Int32)) (pc' := 412) K at_411 (by decide) rfl ?_
    refine oW.icmp_lt (pc' := 424) (pc3 := 415) K at_412 (by decide) (by decide) rfl (fun _ => ?_) (fun q => absurd q (by decide))
    refine oW.iconst (v := (1 : Int32)) (pc' := 425) K at_424 (by decide) rfl ?_
    refine oW.goto (pc' := 429) K at_425 (by decide) (by decide) ?_
    refine oW.istore (Ls' := #[.val (.int p0), .val (.int p1), .val (.int p2), .val (.int p3), .val (.int p4), .val (.int p5), .val (.int (0 : Int32)), .val (.ref a11), .val (.int (0 : Int32)), .val (.int (0 : Int32)), .val (.int (0 : Int32)), .val (.int (0 : Int32)), .val (.int (0 : Int32)), .val (.int (0 : Int32)), .val (.int (0 : Int32)), .val (.int (0 : Int32)), .val (.int (0 : Int32)), .val (.int (0 : Int32)), .val (.double (0 : UInt64)), .second, .val (.double (0 : UInt64)), .second, .val (.double got), .second, .val (.int (1 : Int32))]) (pc' := 431) K at_429 rfl rfl ?_
    refine oW.dload (pc' := 433) K at_431 rfl rfl ?_
    refine oW.dload (pc' := 435) K at_433 rfl rfl ?_
    obtain ⟨v435, ev435⟩ : ∃ z : Int32, z = cmpValue (FP.dcmp got (0 : UInt64)) .l := ⟨_, rfl⟩
    refine oW.dcmp (pc' := 436) K at_435 ev435 rfl ?_
    refine oW.if_ne (pc' := 448) (pc3 := 439) K at_436 (by decide) (by decide) rfl (fun q => absurd (oSame ev435 (ggot.trans (oF_n (by decide)).symm) ngot) q) (fun c436 => ?_)
    refine oW.iload (pc' := 441) K at_439 rfl rfl ?_
    refine oW.if_eq (pc' := 448) (pc3 := 444) K at_441 (by decide) (by decide) rfl (fun q => absurd q (by decide)) (fun _ => ?_)
    refine oW.iconst (v := (1 : Int32)) (pc' := 445) K at_444 (by decide) rfl ?_
    refine oW.goto (pc' := 449) K at_445 (by decide) (by decide) ?_
    exact oW.retB K rfl at_449 (by decide) (by decide) ⟨_, rfl, rfl⟩
  · subst hv6
    refine oW.iload (pc' := 11) K at_9 rfl rfl ?_
    refine oW.newarr (n := 1) (cells' := 1) (slots' := 1) (dsf := fun z => [(z, .inl (.int, [(.int (0 : Int32))]))]) (pc' := 13) K (hw _ (List.mem_of_getElem? (i := 1) rfl)) at_11 rfl (by decide) (by decide) (by decide) (by decide) rfl rfl (fun _ => rfl) rfl ?_
    intro a11 ha11
    refine oW.astore (Ls' := #[.val (.int p0), .val (.int p1), .val (.int p2), .val (.int p3), .val (.int p4), .val (.int p5), .val (.int (1 : Int32)), .val (.ref a11), .unset, .unset, .unset, .unset, .unset, .unset, .unset, .unset, .unset, .unset, .unset, .unset, .unset, .unset, .unset, .unset, .unset]) (pc' := 15) K at_13 rfl rfl rfl ?_
    refine oW.iload (pc' := 17) K at_15 rfl rfl ?_
    refine oW.if_le (pc' := 25) (pc3 := 20) K at_17 (by decide) (by decide) rfl (fun q => absurd q (by decide)) (fun _ => ?_)
    refine oW.aload (pc' := 22) K at_20 rfl rfl rfl ?_
    refine oW.iconst (v := (0 : Int32)) (pc' := 23) K at_22 (by decide) rfl ?_
    refine oW.iloadN (pc' := 24) K at_23 rfl rfl ?_
    refine oW.iastore (i := 0) (k := 0) (ds' := [(a11, .inl (.int, [(.int p1)]))]) (pc' := 25) K at_24 rfl rfl (by decide) (Nat.lt_of_sub_eq_succ rfl) rfl rfl ?_
    refine oW.iload (pc' := 27) K at_25 rfl rfl ?_
    refine oW.iconst (v := (1 : Int32)) (pc' := 28) K at_27 (by decide) rfl ?_
    refine oW.icmp_le (pc' := 36) (pc3 := 31) K at_28 (by decide) (by decide) rfl (fun _ => ?_) (fun q => absurd q (by decide))
    refine oW.iload (pc' := 38) K at_36 rfl rfl ?_
    refine oW.iconst (v := (2 : Int32)) (pc' := 39) K at_38 (by decide) rfl ?_
    refine oW.icmp_le (pc' := 47) (pc3 := 42) K at_39 (by decide) (by decide) rfl (fun _ => ?_) (fun q => absurd q (by decide))
    refine oW.iload (pc' := 49) K at_47 rfl rfl ?_
    refine oW.iconst (v := (3 : Int32)) (pc' := 50) K at_49 (by decide) rfl ?_
    refine oW.icmp_le (pc' := 59) (pc3 := 53) K at_50 (by decide) (by decide) rfl (fun _ => ?_) (fun q => absurd q (by decide))
    refine oW.iload (pc' := 61) K at_59 rfl rfl ?_
    refine oW.iconst (v := (4 : Int32)) (pc' := 62) K at_61 (by decide) rfl ?_
    refine oW.icmp_le (pc' := 71) (pc3 := 65) K at_62 (by decide) (by decide) rfl (fun _ => ?_) (fun q => absurd q (by decide))
    refine oW.iload (pc' := 73) K at_71 rfl rfl ?_
    refine oW.iconst (v := (1 : Int32)) (pc' := 74) K at_73 (by decide) rfl ?_
    refine oW.icmp_lt (pc' := 86) (pc3 := 77) K at_74 (by decide) (by decide) rfl (fun q => absurd q (by decide)) (fun _ => ?_)
    refine oW.join (F := fun z : Int32 => z = oR p1) (pcj := 87) (Lf := fun z => #[.val (.int p0), .val (.int p1), .val (.int p2), .val (.int p3), .val (.int p4), .val (.int p5), .val (.int (1 : Int32)), .val (.ref a11), .unset, .unset, .unset, .unset, .unset, .unset, .unset, .unset, .unset, .unset, .unset, .unset, .unset, .unset, .unset, .unset, .unset]) (Sf := fun z => [(.int z)]) (dsf := fun z => [(a11, .inl (.int, [(.int p1)]))]) ?_ ?_
    · intro J
      refine oW.iloadN (pc' := 78) K at_77 rfl rfl ?_
      refine oW.iconst (v := (1 : Int32)) (pc' := 79) K at_78 (by decide) rfl ?_
      refine oW.icmp_lt (pc' := 86) (pc3 := 82) K at_79 (by decide) (by decide) rfl (fun c79 => ?_) (fun c79 => ?_)
      · refine oW.iconst (v := (0 : Int32)) (pc' := 87) K at_86 (by decide) rfl ?_
        exact J (0 : Int32) (oR_0 c79)
      · refine oW.iconst (v := (1 : Int32)) (pc' := 83) K at_82 (by decide) rfl ?_
        refine oW.goto (pc' := 87) K at_83 (by decide) (by decide) ?_
        exact J (1 : Int32) (oR_1 c79)
    intro r8 hr8
    refine oW.istore (Ls' := #[.val (.int p0), .val (.int p1), .val (.int p2), .val (.int p3), .val (.int p4), .val (.int p5), .val (.int (1 : Int32)), .val (.ref a11), .val (.int r8), .unset, .unset, .unset, .unset, .unset, .unset, .unset, .unset, .unset, .unset, .unset, .unset, .unset, .unset, .unset, .unset]) (pc' := 89) K at_87 rfl rfl ?_
    refine oW.iload (pc' := 91) K at_89 rfl rfl ?_
    refine oW.iconst (v := (2 : Int32)) (pc' := 92) K at_91 (by decide) rfl ?_
    refine oW.icmp_lt (pc' := 104) (pc3 := 95) K at_92 (by decide) (by decide) rfl (fun _ => ?_) (fun q => absurd q (by decide))
    refine oW.iconst (v := (0 : Int32)) (pc' := 105) K at_104 (by decide) rfl ?_
    refine oW.istore (Ls' := #[.val (.int p0), .val (.int p1), .val (.int p2), .val (.int p3), .val (.int p4), .val (.int p5), .val (.int (1 : Int32)), .val (.ref a11), .val (.int r8), .val (.int (0 : Int32)), .unset, .unset, .unset, .unset, .unset, .unset, .unset, .unset, .unset, .unset, .unset, .unset, .unset, .unset, .unset]) (pc' := 107) K at_105 rfl rfl ?_
    refine oW.iload (pc' := 109) K at_107 rfl rfl ?_
    refine oW.iconst (v := (3 : Int32)) (pc' := 110) K at_109 (by decide) rfl ?_
    refine oW.icmp_lt (pc' := 122) (pc3 := 113) K at_110 (by decide) (by decide) rfl (fun _ => ?_) (fun q => absurd q (by decide))
    refine oW.iconst (v := (0 : Int32)) (pc' := 123) K at_122 (by decide) rfl ?_
    refine oW.istore (Ls' := #[.val (.int p0), .val (.int p1), .val (.int p2), .val (.int p3), .val (.int p4), .val (.int p5), .val (.int (1 : Int32)), .val (.ref a11), .val (.int r8), .val (.int (0 : Int32)), .val (.int (0 : Int32)), .unset, .unset, .unset, .unset, .unset, .unset, .unset, .unset, .unset, .unset, .unset, .unset, .unset, .unset]) (pc' := 125) K at_123 rfl rfl ?_
    refine oW.iload (pc' := 127) K at_125 rfl rfl ?_
    refine oW.iconst (v := (4 : Int32)) (pc' := 128) K at_127 (by decide) rfl ?_
    refine oW.icmp_lt (pc' := 141) (pc3 := 131) K at_128 (by decide) (by decide) rfl (fun _ => ?_) (fun q => absurd q (by decide))
    refine oW.iconst (v := (0 : Int32)) (pc' := 142) K at_141 (by decide) rfl ?_
    refine oW.istore (Ls' := #[.val (.int p0), .val (.int p1), .val (.int p2), .val (.int p3), .val (.int p4), .val (.int p5), .val (.int (1 : Int32)), .val (.ref a11), .val (.int r8), .val (.int (0 : Int32)), .val (.int (0 : Int32)), .val (.int (0 : Int32)), .unset, .unset, .unset, .unset, .unset, .unset, .unset, .unset, .unset, .unset, .unset, .unset, .unset]) (pc' := 144) K at_142 rfl rfl ?_
    refine oW.iload (pc' := 146) K at_144 rfl rfl ?_
    refine oW.iconst (v := (5 : Int32)) (pc' := 147) K at_146 (by decide) rfl ?_
    refine oW.icmp_lt (pc' := 160) (pc3 := 150) K at_147 (by decide) (by decide) rfl (fun _ => ?_) (fun q => absurd q (by decide))
    refine oW.iconst (v := (0 : Int32)) (pc' := 161) K at_160 (by decide) rfl ?_
    refine oW.istore (Ls' := #[.val (.int p0), .val (.int p1), .val (.int p2), .val (.int p3), .val (.int p4), .val (.int p5), .val (.int (1 : Int32)), .val (.ref a11), .val (.int r8), .val (.int (0 : Int32)), .val (.int (0 : Int32)), .val (.int (0 : Int32)), .val (.int (0 : Int32)), .unset, .unset, .unset, .unset, .unset, .unset, .unset, .unset, .unset, .unset, .unset, .unset]) (pc' := 163) K at_161 rfl rfl ?_
    refine oW.join (F := fun z : Int32 => z = oC (0 : Int32) p1) (pcj := 173) (Lf := fun z => #[.val (.int p0), .val (.int p1), .val (.int p2), .val (.int p3), .val (.int p4), .val (.int p5), .val (.int (1 : Int32)), .val (.ref a11), .val (.int r8), .val (.int (0 : Int32)), .val (.int (0 : Int32)), .val (.int (0 : Int32)), .val (.int (0 : Int32)), .unset, .unset, .unset, .unset, .unset, .unset, .unset, .unset, .unset, .unset, .unset, .unset]) (Sf := fun z => [(.int z)]) (dsf := fun z => [(a11, .inl (.int, [(.int p1)]))]) ?_ ?_
    · intro J
      refine oW.iload (pc' := 165) K at_163 rfl rfl ?_
      refine oW.if_eq (pc' := 172) (pc3 := 168) K at_165 (by decide) (by decide) rfl (fun c165 => ?_) (fun c165 => ?_)
      · refine oW.iconst (v := (0 : Int32)) (pc' := 173) K at_172 (by decide) rfl ?_
        exact J (0 : Int32) (oC_z rfl (oR_z hr8 c165))
      · refine oW.iconst (v := (1 : Int32)) (pc' := 169) K at_168 (by decide) rfl ?_
        refine oW.goto (pc' := 173) K at_169 (by decide) (by decide) ?_
        exact J (1 : Int32) (oC_n (by decide) (oR_n hr8 c165))
    intro k8 hk8
    refine oW.istore (Ls' := #[.val (.int p0), .val (.int p1), .val (.int p2), .val (.int p3), .val (.int p4), .val (.int p5), .val (.int (1 : Int32)), .val (.ref a11), .val (.int r8), .val (.int (0 : Int32)), .val (.int (0 : Int32)), .val (.int (0 : Int32)), .val (.int (0 : Int32)), .val (.int k8), .unset, .unset, .unset, .unset, .unset, .unset, .unset, .unset, .unset, .unset, .unset]) (pc' := 175) K at_173 rfl rfl ?_
    refine oW.iload (pc' := 177) K at_175 rfl rfl ?_
    refine oW.iload (pc' := 179) K at_177 rfl rfl ?_
    refine oW.if_eq (pc' := 186) (pc3 := 182) K at_179 (by decide) (by decide) rfl (fun _ => ?_) (fun q => absurd q (by decide))
    refine oW.iconst (v := (0 : Int32)) (pc' := 187) K at_186 (by decide) rfl ?_
    obtain ⟨v187, ev187⟩ : ∃ z : Int32, z = k8 + (0 : Int32) := ⟨_, rfl⟩
    refine oW.iadd (pc' := 188) K at_187 ev187 rfl ?_
    refine oW.istore (Ls' := #[.val (.int p0), .val (.int p1), .val (.int p2), .val (.int p3), .val (.int p4), .val (.int p5), .val (.int (1 : Int32)), .val (.ref a11), .val (.int r8), .val (.int (0 : Int32)), .val (.int (0 : Int32)), .val (.int (0 : Int32)), .val (.int (0 : Int32)), .val (.int k8), .val (.int v187), .unset, .unset, .unset, .unset, .unset, .unset, .unset, .unset, .unset, .unset]) (pc' := 190) K at_188 rfl rfl ?_
    refine oW.iload (pc' := 192) K at_190 rfl rfl ?_
    refine oW.iload (pc' := 194) K at_192 rfl rfl ?_
    refine oW.if_eq (pc' := 201) (pc3 := 197) K at_194 (by decide) (by decide) rfl (fun _ => ?_) (fun q => absurd q (by decide))
    refine oW.iconst (v := (0 : Int32)) (pc' := 202) K at_201 (by decide) rfl ?_
    obtain ⟨v202, ev202⟩ : ∃ z : Int32, z = v187 + (0 : Int32) := ⟨_, rfl⟩
    refine oW.iadd (pc' := 203) K at_202 ev202 rfl ?_
    refine oW.istore (Ls' := #[.val (.int p0), .val (.int p1), .val (.int p2), .val (.int p3), .val (.int p4), .val (.int p5), .val (.int (1 : Int32)), .val (.ref a11), .val (.int r8), .val (.int (0 : Int32)), .val (.int (0 : Int32)), .val (.int (0 : Int32)), .val (.int (0 : Int32)), .val (.int k8), .val (.int v187), .val (.int v202), .unset, .unset, .unset, .unset, .unset, .unset, .unset, .unset, .unset]) (pc' := 205) K at_203 rfl rfl ?_
    refine oW.iload (pc' := 207) K at_205 rfl rfl ?_
    refine oW.iload (pc' := 209) K at_207 rfl rfl ?_
    refine oW.if_eq (pc' := 216) (pc3 := 212) K at_209 (by decide) (by decide) rfl (fun _ => ?_) (fun q => absurd q (by decide))
    refine oW.iconst (v := (0 : Int32)) (pc' := 217) K at_216 (by decide) rfl ?_
    obtain ⟨v217, ev217⟩ : ∃ z : Int32, z = v202 + (0 : Int32) := ⟨_, rfl⟩
    refine oW.iadd (pc' := 218) K at_217 ev217 rfl ?_
    refine oW.istore (Ls' := #[.val (.int p0), .val (.int p1), .val (.int p2), .val (.int p3), .val (.int p4), .val (.int p5), .val (.int (1 : Int32)), .val (.ref a11), .val (.int r8), .val (.int (0 : Int32)), .val (.int (0 : Int32)), .val (.int (0 : Int32)), .val (.int (0 : Int32)), .val (.int k8), .val (.int v187), .val (.int v202), .val (.int v217), .unset, .unset, .unset, .unset, .unset, .unset, .unset, .unset]) (pc' := 220) K at_218 rfl rfl ?_
    refine oW.iload (pc' := 222) K at_220 rfl rfl ?_
    refine oW.iload (pc' := 224) K at_222 rfl rfl ?_
    refine oW.if_eq (pc' := 231) (pc3 := 227) K at_224 (by decide) (by decide) rfl (fun _ => ?_) (fun q => absurd q (by decide))
    refine oW.iconst (v := (0 : Int32)) (pc' := 232) K at_231 (by decide) rfl ?_
    obtain ⟨v232, ev232⟩ : ∃ z : Int32, z = v217 + (0 : Int32) := ⟨_, rfl⟩
    refine oW.iadd (pc' := 233) K at_232 ev232 rfl ?_
    refine oW.istore (Ls' := #[.val (.int p0), .val (.int p1), .val (.int p2), .val (.int p3), .val (.int p4), .val (.int p5), .val (.int (1 : Int32)), .val (.ref a11), .val (.int r8), .val (.int (0 : Int32)), .val (.int (0 : Int32)), .val (.int (0 : Int32)), .val (.int (0 : Int32)), .val (.int k8), .val (.int v187), .val (.int v202), .val (.int v217), .val (.int v232), .unset, .unset, .unset, .unset, .unset, .unset, .unset]) (pc' := 235) K at_233 rfl rfl ?_
    refine oW.dconst0 (pc' := 236) K at_235 rfl ?_
    refine oW.dstore (Ls' := #[.val (.int p0), .val (.int p1), .val (.int p2), .val (.int p3), .val (.int p4), .val (.int p5), .val (.int (1 : Int32)), .val (.ref a11), .val (.int r8), .val (.int (0 : Int32)), .val (.int (0 : Int32)), .val (.int (0 : Int32)), .val (.int (0 : Int32)), .val (.int k8), .val (.int v187), .val (.int v202), .val (.int v217), .val (.int v232), .val (.double (0 : UInt64)), .second, .unset, .unset, .unset, .unset, .unset]) (pc' := 238) K at_236 rfl rfl ?_
    refine oW.join (F := fun z : UInt64 => z = oS (0 : UInt64) k8 (4607182418800017408 : UInt64) p1 ∧ oMag 1059 z) (pcj := 253) (Lf := fun z => #[.val (.int p0), .val (.int p1), .val (.int p2), .val (.int p3), .val (.int p4), .val (.int p5), .val (.int (1 : Int32)), .val (.ref a11), .val (.int r8), .val (.int (0 : Int32)), .val (.int (0 : Int32)), .val (.int (0 : Int32)), .val (.int (0 : Int32)), .val (.int k8), .val (.int v187), .val (.int v202), .val (.int v217), .val (.int v232), .val (.double z), .second, .unset, .unset, .unset, .unset, .unset]) (Sf := fun z => []) (dsf := fun z => [(a11, .inl (.int, [(.int p1)]))]) ?_ ?_
    · intro J
      refine oW.iload (pc' := 240) K at_238 rfl rfl ?_
      refine oW.if_eq (pc' := 253) (pc3 := 243) K at_240 (by decide) (by decide) rfl (fun c240 => ?_) (fun c240 => ?_)
      · exact J (0 : UInt64) (⟨oS_z (oR_z hr8 c240), Jvm.Free.Fl.Mag64.mono (by unfold oMag Jvm.Free.Fl.Mag64; decide : oMag 1 (0 : UInt64)) (by decide)⟩)
      · refine oW.dload (pc' := 245) K at_243 rfl rfl ?_
        refine oW.iload (pc' := 247) K at_245 rfl rfl ?_
        obtain ⟨v247, ev247⟩ : ∃ z : UInt64, z = FP.i2d k8 := ⟨_, rfl⟩
        have mv247 : oMag 1056 v247 := oMI2D ev247
        refine oW.i2d (pc' := 248) K at_247 ev247 rfl ?_
        refine oW.dconst1 (pc' := 249) K at_248 rfl ?_
        obtain ⟨v249, ev249⟩ : ∃ z : UInt64, z = FP.ddiv v247 (4607182418800017408 : UInt64) := ⟨_, rfl⟩
        have mv249 : oMag 1057 v249 := oMDiv mv247 (by unfold Big64; decide : Big64 1023 (4607182418800017408 : UInt64)) ev249 (by decide)
        refine oW.ddiv (pc' := 250) K at_249 ev249 (oMNN mv249 (by decide)) rfl ?_
        obtain ⟨v250, ev250⟩ : ∃ z : UInt64, z = FP.dadd (0 : UInt64) v249 := ⟨_, rfl⟩
        have mv250 : oMag 1059 v250 := oMAdd (A := 1057) (Jvm.Free.Fl.Mag64.mono (by unfold oMag Jvm.Free.Fl.Mag64; decide : oMag 1 (0 : UInt64)) (by decide)) mv249 ev250 (by decide)
        refine oW.dadd (pc' := 251) K at_250 ev250 (oMNN mv250 (by decide)) rfl ?_
        refine oW.dstore (Ls' := #[.val (.int p0), .val (.int p1), .val (.int p2), .val (.int p3), .val (.int p4), .val (.int p5), .val (.int (1 : Int32)), .val (.ref a11), .val (.int r8), .val (.int (0 : Int32)), .val (.int (0 : Int32)), .val (.int (0 : Int32)), .val (.int (0 : Int32)), .val (.int k8), .val (.int v187), .val (.int v202), .val (.int v217), .val (.int v232), .val (.double v250), .second, .unset, .unset, .unset, .unset, .unset]) (pc' := 253) K at_251 rfl rfl ?_
        exact J v250 (⟨oS_n ev247 ev249 ev250 (oR_n hr8 c240) rfl, mv250⟩)
    intro s8 hs8
    obtain ⟨gs8, ms8⟩ := hs8
    refine oW.iload (pc' := 255) K at_253 rfl rfl ?_
    refine oW.if_eq (pc' := 270) (pc3 := 258) K at_255 (by decide) (by decide) rfl (fun _ => ?_) (fun q => absurd q (by decide))
    refine oW.iload (pc' := 272) K at_270 rfl rfl ?_
    refine oW.if_eq (pc' := 287) (pc3 := 275) K at_272 (by decide) (by decide) rfl (fun _ => ?_) (fun q => absurd q (by decide))
    refine oW.iload (pc' := 289) K at_287 rfl rfl ?_
    refine oW.if_eq (pc' := 304) (pc3 := 292) K at_289 (by decide) (by decide) rfl (fun _ => ?_) (fun q => absurd q (by decide))
    refine oW.iload (pc' := 306) K at_304 rfl rfl ?_
    refine oW.if_eq (pc' := 321) (pc3 := 309) K at_306 (by decide) (by decide) rfl (fun _ => ?_) (fun q => absurd q (by decide))
    refine oW.join (F := fun z : UInt64 => z = oFin v232 s8 ∧ Jvm.Free.Fl.NoNaN64 z) (pcj := 336) (Lf := fun z => #[.val (.int p0), .val (.int p1), .val (.int p2), .val (.int p3), .val (.int p4), .val (.int p5), .val (.int (1 : Int32)), .val (.ref a11), .val (.int r8), .val (.int (0 : Int32)), .val (.int (0 : Int32)), .val (.int (0 : Int32)), .val (.int (0 : Int32)), .val (.int k8), .val (.int v187), .val (.int v202), .val (.int v217), .val (.int v232), .val (.double s8), .second, .unset, .unset, .unset, .unset, .unset]) (Sf := fun z => [(.double z)]) (dsf := fun z => [(a11, .inl (.int, [(.int p1)]))]) ?_ ?_
    · intro J
      refine oW.iload (pc' := 323) K at_321 rfl rfl ?_
      refine oW.if_le (pc' := 335) (pc3 := 326) K at_323 (by decide) (by decide) rfl (fun c323 => ?_) (fun c323 => ?_)
      · refine oW.dconst0 (pc' := 336) K at_335 rfl ?_
        exact J (0 : UInt64) (⟨oF_n c323, oMNN (by unfold oMag Jvm.Free.Fl.Mag64; decide : oMag 1 (0 : UInt64)) (by decide)⟩)
      · refine oW.dload (pc' := 328) K at_326 rfl rfl ?_
        refine oW.iload (pc' := 330) K at_328 rfl rfl ?_
        obtain ⟨v330, ev330⟩ : ∃ z : UInt64, z = FP.i2d v232 := ⟨_, rfl⟩
        have mv330 : oMag 1056 v330 := oMI2D ev330
        refine oW.i2d (pc' := 331) K at_330 ev330 rfl ?_
        obtain ⟨v331, ev331⟩ : ∃ z : UInt64, z = FP.ddiv s8 v330 := ⟨_, rfl⟩
        have mv331 : oMag 1060 v331 := oMDiv ms8 (oBigI ev330 c323) ev331 (by decide)
        refine oW.ddiv (pc' := 332) K at_331 ev331 (oMNN mv331 (by decide)) rfl ?_
        refine oW.goto (pc' := 336) K at_332 (by decide) (by decide) ?_
        exact J v331 (⟨oF_p ev330 ev331 c323, oMNN mv331 (by decide)⟩)
    intro ex hex
    obtain ⟨gex, nex⟩ := hex
    refine oW.dstore (Ls' := #[.val (.int p0), .val (.int p1), .val (.int p2), .val (.int p3), .val (.int p4), .val (.int p5), .val (.int (1 : Int32)), .val (.ref a11), .val (.int r8), .val (.int (0 : Int32)), .val (.int (0 : Int32)), .val (.int (0 : Int32)), .val (.int (0 : Int32)), .val (.int k8), .val (.int v187), .val (.int v202), .val (.int v217), .val (.int v232), .val (.double s8), .second, .val (.double ex), .second, .unset, .unset, .unset]) (pc' := 338) K at_336 rfl rfl ?_
    refine oW.new (fs := []) (cells' := 2) (slots' := 1) (dsf := fun z => [(a11, .inl (.int, [(.int p1)])), (z, .inr ("com/example/ordevo/ordevo/AveragePrecision", []))]) (pc' := 341) K (hw _ (List.mem_of_getElem? (i := 2) rfl)) (hw _ (List.mem_of_getElem? (i := 3) rfl)) (hw _ (List.mem_of_getElem? (i := 4) rfl)) (oLd_0 hw) at_338 (by decide) (by decide) rfl rfl (fun _ => rfl) rfl ?_
    intro a338 ha338
    refine oW.dup (pc' := 342) K at_341 rfl rfl ?_
    refine oW.callI (a := a338) (argsL := []) (S := [(.ref a338)]) (rm := ({ frames := 1, cells := 0, slots := 0, locals := 12 } : Room)) (W := 1) (cells' := 2) (slots' := 1) (pc' := 345) K rfl (hw _ (List.mem_of_getElem? (i := 5) rfl)) (hw _ (List.mem_of_getElem? (i := 6) rfl)) (hw _ (List.mem_of_getElem? (i := 4) rfl)) (hw _ (List.mem_of_getElem? (i := 7) rfl)) (by decide) (own_init hw a338 _) (lenOf pd_0 rfl) at_342 rfl rfl (Nat.le_of_eq rfl) (by decide) (by decide) (by decide) (by decide) rfl rfl rfl ?_
    rintro _ rfl
    refine oW.aload (pc' := 347) K at_345 rfl rfl rfl ?_
    refine oW.callV (a := a338) (argsL := [(.ref a11)]) (S := []) (rm := ({ frames := 0, cells := 0, slots := 0, locals := 0 } : Room)) (W := 0) (cells' := 2) (slots' := 1) (pc' := 350) K (hw _ (List.mem_of_getElem? (i := 11) rfl)) (hw _ (List.mem_of_getElem? (i := 12) rfl)) (hw _ (List.mem_of_getElem? (i := 14) rfl)) (hw _ (List.mem_of_getElem? (i := 13) rfl)) (hw _ (List.mem_of_getElem? (i := 15) rfl)) (hw _ (List.mem_of_getElem? (i := 4) rfl)) (by decide) (oNF (hw _ (List.mem_of_getElem? (i := 14) rfl))) (fun _ M => oMem.exa (i := 1) rfl M) (own_ev1 hw a338 a11 p1) (lenOf pd_1 rfl) at_347 rfl rfl (Nat.le_of_eq rfl) (by decide) (by decide) (by decide) (by decide) rfl rfl rfl ?_
    rintro _ _ ⟨got, rfl, ⟨ggot, ngot⟩, rfl⟩
    refine oW.dstore (Ls' := #[.val (.int p0), .val (.int p1), .val (.int p2), .val (.int p3), .val (.int p4), .val (.int p5), .val (.int (1 : Int32)), .val (.ref a11), .val (.int r8), .val (.int (0 : Int32)), .val (.int (0 : Int32)), .val (.int (0 : Int32)), .val (.int (0 : Int32)), .val (.int k8), .val (.int v187), .val (.int v202), .val (.int v217), .val (.int v232), .val (.double s8), .second, .val (.double ex), .second, .val (.double got), .second, .unset]) (pc' := 352) K at_350 rfl rfl ?_
    refine oW.iload (pc' := 354) K at_352 rfl rfl ?_
    refine oW.iconst (v := (1 : Int32)) (pc' := 355) K at_354 (by decide) rfl ?_
    refine oW.icmp_lt (pc' := 366) (pc3 := 358) K at_355 (by decide) (by decide) rfl (fun q => absurd q (by decide)) (fun _ => ?_)
    refine oW.aload (pc' := 360) K at_358 rfl rfl rfl ?_
    refine oW.iconst (v := (0 : Int32)) (pc' := 361) K at_360 (by decide) rfl ?_
    refine oW.iaload (i := 0) (k := 0) (pc' := 362) K at_361 rfl rfl (by decide) rfl rfl ?_
    refine oW.iloadN (pc' := 363) K at_362 rfl rfl ?_
    refine oW.icmp_ne (pc' := 428) (pc3 := 366) K at_363 (by decide) (by decide) rfl (fun q => absurd rfl q) (fun c363 => ?_)
    refine oW.iload (pc' := 368) K at_366 rfl rfl ?_
    refine oW.iconst (v := (2 : Int32)) (pc' := 369) K at_368 (by decide) rfl ?_
    refine oW.icmp_lt (pc' := 380) (pc3 := 372) K at_369 (by decide) (by decide) rfl (fun _ => ?_) (fun q => absurd q (by decide))
    refine oW.iload (pc' := 382) K at_380 rfl rfl ?_
    refine oW.iconst (v := (3 : Int32)) (pc' := 383) K at_382 (by decide) rfl ?_
    refine oW.icmp_lt (pc' := 394) (pc3 := 386) K at_383 (by decide) (by decide) rfl (fun _ => ?_) (fun q => absurd q (by decide))
    refine oW.iload (pc' := 396) K at_394 rfl rfl ?_
    refine oW.iconst (v := (4 : Int32)) (pc' := 397) K at_396 (by decide) rfl ?_
    refine oW.icmp_lt (pc' := 409) (pc3 := 400) K at_397 (by decide) (by decide) rfl (fun _ => ?_) (fun q => absurd q (by decide))
    refine oW.iload (pc' := 411) K at_409 rfl rfl ?_
    refine oW.iconst (v := (5 : Int32)) (pc' := 412) K at_411 (by decide) rfl ?_
    refine oW.icmp_lt (pc' := 424) (pc3 := 415) K at_412 (by decide) (by decide) rfl (fun _ => ?_) (fun q => absurd q (by decide))
    refine oW.iconst (v := (1 : Int32)) (pc' := 425) K at_424 (by decide) rfl ?_
    refine oW.goto (pc' := 429) K at_425 (by decide) (by decide) ?_
    refine oW.istore (Ls' := #[.val (.int p0), .val (.int p1), .val (.int p2), .val (.int p3), .val (.int p4), .val (.int p5), .val (.int (1 : Int32)), .val (.ref a11), .val (.int r8), .val (.int (0 : Int32)), .val (.int (0 : Int32)), .val (.int (0 : Int32)), .val (.int (0 : Int32)), .val (.int k8), .val (.int v187), .val (.int v202), .val (.int v217), .val (.int v232), .val (.double s8), .second, .val (.double ex), .second, .val (.double got), .second, .val (.int (1 : Int32))]) (pc' := 431) K at_429 rfl rfl ?_
    refine oW.dload (pc' := 433) K at_431 rfl rfl ?_
    refine oW.dload (pc' := 435) K at_433 rfl rfl ?_
    obtain ⟨v435, ev435⟩ : ∃ z : Int32, z = cmpValue (FP.dcmp got ex) .l := ⟨_, rfl⟩
    refine oW.dcmp (pc' := 436) K at_435 ev435 rfl ?_
    refine oW.if_ne (pc' := 448) (pc3 := 439) K at_436 (by decide) (by decide) rfl (fun q => absurd (oSame ev435 (by rw [ggot, gex]; subst_vars; simp only [Int32.add_zero]) ngot) q) (fun c436 => ?_)
    refine oW.iload (pc' := 441) K at_439 rfl rfl ?_
    refine oW.if_eq (pc' := 448) (pc3 := 444) K at_441 (by decide) (by decide) rfl (fun q => absurd q (by decide)) (fun _ => ?_)
    refine oW.iconst (v := (1 : Int32)) (pc' := 445) K at_444 (by decide) rfl ?_
    refine oW.goto (pc' := 449) K at_445 (by decide) (by decide) ?_
    exact oW.retB K rfl at_449 (by decide) (by decide) ⟨_, rfl, rfl⟩
  · subst hv6
    refine oW.iload (pc' := 11) K at_9 rfl rfl ?_
    refine oW.newarr (n := 2) (cells' := 1) (slots' := 2) (dsf := fun z => [(z, .inl (.int, [(.int (0 : Int32)), (.int (0 : Int32))]))]) (pc' := 13) K (hw _ (List.mem_of_getElem? (i := 1) rfl)) at_11 rfl (by decide) (by decide) (by decide) (by decide) rfl rfl (fun _ => rfl) rfl ?_
    intro a11 ha11
    refine oW.astore (Ls' := #[.val (.int p0), .val (.int p1), .val (.int p2), .val (.int p3), .val (.int p4), .val (.int p5), .val (.int (2 : Int32)), .val (.ref a11), .unset, .unset, .unset, .unset, .unset, .unset, .unset, .unset, .unset, .unset, .unset, .unset, .unset, .unset, .unset, .unset, .unset]) (pc' := 15) K at_13 rfl rfl rfl ?_
    refine oW.iload (pc' := 17) K at_15 rfl rfl ?_
    refine oW.if_le (pc' := 25) (pc3 := 20) K at_17 (by decide) (by decide) rfl (fun q => absurd q (by decide)) (fun _ => ?_)
    refine oW.aload (pc' := 22) K at_20 rfl rfl rfl ?_
    refine oW.iconst (v := (0 : Int32)) (pc' := 23) K at_22 (by decide) rfl ?_
    refine oW.iloadN (pc' := 24) K at_23 rfl rfl ?_
    refine oW.iastore (i := 0) (k := 0) (ds' := [(a11, .inl (.int, [(.int p1), (.int (0 : Int32))]))]) (pc' := 25) K at_24 rfl rfl (by decide) (Nat.lt_of_sub_eq_succ rfl) rfl rfl ?_
    refine oW.iload (pc' := 27) K at_25 rfl rfl ?_
    refine oW.iconst (v := (1 : Int32)) (pc' := 28) K at_27 (by decide) rfl ?_
    refine oW.icmp_le (pc' := 36) (pc3 := 31) K at_28 (by decide) (by decide) rfl (fun q => absurd q (by decide)) (fun _ => ?_)
    refine oW.aload (pc' := 33) K at_31 rfl rfl rfl ?_
    refine oW.iconst (v := (1 : Int32)) (pc' := 34) K at_33 (by decide) rfl ?_
    refine oW.iloadN (pc' := 35) K at_34 rfl rfl ?_
    refine oW.iastore (i := 0) (k := 1) (ds' := [(a11, .inl (.int, [(.int p1), (.int p2)]))]) (pc' := 36) K at_35 rfl rfl (by decide) (Nat.lt_of_sub_eq_succ rfl) rfl rfl ?_
    refine oW.iload (pc' := 38) K at_36 rfl rfl ?_
    refine oW.iconst (v := (2 : Int32)) (pc' := 39) K at_38 (by decide) rfl ?_
    refine oW.icmp_le (pc' := 47) (pc3 := 42) K at_39 (by decide) (by decide) rfl (fun _ => ?_) (fun q => absurd q (by decide))
    refine oW.iload (pc' := 49) K at_47 rfl rfl ?_
    refine oW.iconst (v := (3 : Int32)) (pc' := 50) K at_49 (by decide) rfl ?_
    refine oW.icmp_le (pc' := 59) (pc3 := 53) K at_50 (by decide) (by decide) rfl (fun _ => ?_) (fun q => absurd q (by decide))
    refine oW.iload (pc' := 61) K at_59 rfl rfl ?_
    refine oW.iconst (v := (4 : Int32)) (pc' := 62) K at_61 (by decide) rfl ?_
    refine oW.icmp_le (pc' := 71) (pc3 := 65) K at_62 (by decide) (by decide) rfl (fun _ => ?_) (fun q => absurd q (by decide))
    refine oW.iload (pc' := 73) K at_71 rfl rfl ?_
    refine oW.iconst (v := (1 : Int32)) (pc' := 74) K at_73 (by decide) rfl ?_
    refine oW.icmp_lt (pc' := 86) (pc3 := 77) K at_74 (by decide) (by decide) rfl (fun q => absurd q (by decide)) (fun _ => ?_)
    refine oW.join (F := fun z : Int32 => z = oR p1) (pcj := 87) (Lf := fun z => #[.val (.int p0), .val (.int p1), .val (.int p2), .val (.int p3), .val (.int p4), .val (.int p5), .val (.int (2 : Int32)), .val (.ref a11), .unset, .unset, .unset, .unset, .unset, .unset, .unset, .unset, .unset, .unset, .unset, .unset, .unset, .unset, .unset, .unset, .unset]) (Sf := fun z => [(.int z)]) (dsf := fun z => [(a11, .inl (.int, [(.int p1), (.int p2)]))]) ?_ ?_
    · intro J
      refine oW.iloadN (pc' := 78) K at_77 rfl rfl ?_
      refine oW.iconst (v := (1 : Int32)) (pc' := 79) K at_78 (by decide) rfl ?_
      refine oW.icmp_lt (pc' := 86) (pc3 := 82) K at_79 (by decide) (by decide) rfl (fun c79 => ?_) (fun c79 => ?_)
      · refine oW.iconst (v := (0 : Int32)) (pc' := 87) K at_86 (by decide) rfl ?_
        exact J (0 : Int32) (oR_0 c79)
      · refine oW.iconst (v := (1 : Int32)) (pc' := 83) K at_82 (by decide) rfl ?_
        refine oW.goto (pc' := 87) K at_83 (by decide) (by decide) ?_
        exact J (1 : Int32) (oR_1 c79)
    intro r8 hr8
    refine oW.istore (Ls' := #[.val (.int p0), .val (.int p1), .val (.int p2), .val (.int p3), .val (.int p4), .val (.int p5), .val (.int (2 : Int32)), .val (.ref a11), .val (.int r8), .unset, .unset, .unset, .unset, .unset, .unset, .unset, .unset, .unset, .unset, .unset, .unset, .unset, .unset, .unset, .unset]) (pc' := 89) K at_87 rfl rfl ?_
    refine oW.iload (pc' := 91) K at_89 rfl rfl ?_
    refine oW.iconst (v := (2 : Int32)) (pc' := 92) K at_91 (by decide) rfl ?_
    refine oW.icmp_lt (pc' := 104) (pc3 := 95) K at_92 (by decide) (by decide) rfl (fun q => absurd q (by decide)) (fun _ => ?_)
    refine oW.join (F := fun z : Int32 => z = oR p2) (pcj := 105) (Lf := fun z => #[.val (.int p0), .val (.int p1), .val (.int p2), .val (.int p3), .val (.int p4), .val (.int p5), .val (.int (2 : Int32)), .val (.ref a11), .val (.int r8), .unset, .unset, .unset, .unset, .unset, .unset, .unset, .unset, .unset, .unset, .unset, .unset, .unset, .unset, .unset, .unset]) (Sf := fun z => [(.int z)]) (dsf := fun z => [(a11, .inl (.int, [(.int p1), (.int p2)]))]) ?_ ?_
    · intro J
      refine oW.iloadN (pc' := 96) K at_95 rfl rfl ?_
      refine oW.iconst (v := (1 : Int32)) (pc' := 97) K at_96 (by decide) rfl ?_
      refine oW.icmp_lt (pc' := 104) (pc3 := 100) K at_97 (by decide) (by decide) rfl (fun c97 => ?_) (fun c97 => ?_)
      · refine oW.iconst (v := (0 : Int32)) (pc' := 105) K at_104 (by decide) rfl ?_
        exact J (0 : Int32) (oR_0 c97)
      · refine oW.iconst (v := (1 : Int32)) (pc' := 101) K at_100 (by decide) rfl ?_
        refine oW.goto (pc' := 105) K at_101 (by decide) (by decide) ?_
        exact J (1 : Int32) (oR_1 c97)
    intro r9 hr9
    refine oW.istore (Ls' := #[.val (.int p0), .val (.int p1), .val (.int p2), .val (.int p3), .val (.int p4), .val (.int p5), .val (.int (2 : Int32)), .val (.ref a11), .val (.int r8), .val (.int r9), .unset, .unset, .unset, .unset, .unset, .unset, .unset, .unset, .unset, .unset, .unset, .unset, .unset, .unset, .unset]) (pc' := 107) K at_105 rfl rfl ?_
    refine oW.iload (pc' := 109) K at_107 rfl rfl ?_
    refine oW.iconst (v := (3 : Int32)) (pc' := 110) K at_109 (by decide) rfl ?_
    refine oW.icmp_lt (pc' := 122) (pc3 := 113) K at_110 (by decide) (by decide) rfl (fun _ => ?_) (fun q => absurd q (by decide))
    refine oW.iconst (v := (0 : Int32)) (pc' := 123) K at_122 (by decide) rfl ?_
    refine oW.istore (Ls' := #[.val (.int p0), .val (.int p1), .val (.int p2), .val (.int p3), .val (.int p4), .val (.int p5), .val (.int (2 : Int32)), .val (.ref a11), .val (.int r8), .val (.int r9), .val (.int (0 : Int32)), .unset, .unset, .unset, .unset, .unset, .unset, .unset, .unset, .unset, .unset, .unset, .unset, .unset, .unset]) (pc' := 125) K at_123 rfl rfl ?_
    refine oW.iload (pc' := 127) K at_125 rfl rfl ?_
    refine oW.iconst (v := (4 : Int32)) (pc' := 128) K at_127 (by decide) rfl ?_
    refine oW.icmp_lt (pc' := 141) (pc3 := 131) K at_128 (by decide) (by decide) rfl (fun _ => ?_) (fun q => absurd q (by decide))
    refine oW.iconst (v := (0 : Int32)) (pc' := 142) K at_141 (by decide) rfl ?_
    refine oW.istore (Ls' := #[.val (.int p0), .val (.int p1), .val (.int p2), .val (.int p3), .val (.int p4), .val (.int p5), .val (.int (2 : Int32)), .val (.ref a11), .val (.int r8), .val (.int r9), .val (.int (0 : Int32)), .val (.int (0 : Int32)), .unset, .unset, .unset, .unset, .unset, .unset, .unset, .unset, .unset, .unset, .unset, .unset, .unset]) (pc' := 144) K at_142 rfl rfl ?_
    refine oW.iload (pc' := 146) K at_144 rfl rfl ?_
    refine oW.iconst (v := (5 : Int32)) (pc' := 147) K at_146 (by decide) rfl ?_
    refine oW.icmp_lt (pc' := 160) (pc3 := 150) K at_147 (by decide) (by decide) rfl (fun _ => ?_) (fun q => absurd q (by decide))
    refine oW.iconst (v := (0 : Int32)) (pc' := 161) K at_160 (by decide) rfl ?_
    refine oW.istore (Ls' := #[.val (.int p0), .val (.int p1), .val (.int p2), .val (.int p3), .val (.int p4), .val (.int p5), .val (.int (2 : Int32)), .val (.ref a11), .val (.int r8), .val (.int r9), .val (.int (0 : Int32)), .val (.int (0 : Int32)), .val (.int (0 : Int32)), .unset, .unset, .unset, .unset, .unset, .unset, .unset, .unset, .unset, .unset, .unset, .unset]) (pc' := 163) K at_161 rfl rfl ?_
    refine oW.join (F := fun z : Int32 => z = oC (0 : Int32) p1) (pcj := 173) (Lf := fun z => #[.val (.int p0), .val (.int p1), .val (.int p2), .val (.int p3), .val (.int p4), .val (.int p5), .val (.int (2 : Int32)), .val (.ref a11), .val (.int r8), .val (.int r9), .val (.int (0 : Int32)), .val (.int (0 : Int32)), .val (.int (0 : Int32)), .unset, .unset, .unset, .unset, .unset, .unset, .unset, .unset, .unset, .unset, .unset, .unset]) (Sf := fun z => [(.int z)]) (dsf := fun z => [(a11, .inl (.int, [(.int p1), (.int p2)]))]) ?_ ?_
    · intro J
      refine oW.iload (pc' := 165) K at_163 rfl rfl ?_
      refine oW.if_eq (pc' := 172) (pc3 := 168) K at_165 (by decide) (by decide) rfl (fun c165 => ?_) (fun c165 => ?_)
      · refine oW.iconst (v := (0 : Int32)) (pc' := 173) K at_172 (by decide) rfl ?_
        exact J (0 : Int32) (oC_z rfl (oR_z hr8 c165))
      · refine oW.iconst (v := (1 : Int32)) (pc' := 169) K at_168 (by decide) rfl ?_
        refine oW.goto (pc' := 173) K at_169 (by decide) (by decide) ?_
        exact J (1 : Int32) (oC_n (by decide) (oR_n hr8 c165))
    intro k8 hk8
    refine oW.istore (Ls' := #[.val (.int p0), .val (.int p1), .val (.int p2), .val (.int p3), .val (.int p4), .val (.int p5), .val (.int (2 : Int32)), .val (.ref a11), .val (.int r8), .val (.int r9), .val (.int (0 : Int32)), .val (.int (0 : Int32)), .val (.int (0 : Int32)), .val (.int k8), .unset, .unset, .unset, .unset, .unset, .unset, .unset, .unset, .unset, .unset, .unset]) (pc' := 175) K at_173 rfl rfl ?_
    refine oW.join (F := fun z : Int32 => z = oC k8 p2) (pcj := 188) (Lf := fun z => #[.val (.int p0), .val (.int p1), .val (.int p2), .val (.int p3), .val (.int p4), .val (.int p5), .val (.int (2 : Int32)), .val (.ref a11), .val (.int r8), .val (.int r9), .val (.int (0 : Int32)), .val (.int (0 : Int32)), .val (.int (0 : Int32)), .val (.int k8), .unset, .unset, .unset, .unset, .unset, .unset, .unset, .unset, .unset, .unset, .unset]) (Sf := fun z => [(.int z)]) (dsf := fun z => [(a11, .inl (.int, [(.int p1), (.int p2)]))]) ?_ ?_
    · intro J
      refine oW.iload (pc' := 177) K at_175 rfl rfl ?_
      refine oW.iload (pc' := 179) K at_177 rfl rfl ?_
      refine oW.if_eq (pc' := 186) (pc3 := 182) K at_179 (by decide) (by decide) rfl (fun c179 => ?_) (fun c179 => ?_)
      · refine oW.iconst (v := (0 : Int32)) (pc' := 187) K at_186 (by decide) rfl ?_
        obtain ⟨v187, ev187⟩ : ∃ z : Int32, z = k8 + (0 : Int32) := ⟨_, rfl⟩
        refine oW.iadd (pc' := 188) K at_187 ev187 rfl ?_
        exact J v187 (oC_z (ev187.trans (Int32.add_zero _)) (oR_z hr9 c179))
      · refine oW.iconst (v := (1 : Int32)) (pc' := 183) K at_182 (by decide) rfl ?_
        refine oW.goto (pc' := 187) K at_183 (by decide) (by decide) ?_
        obtain ⟨v187, ev187⟩ : ∃ z : Int32, z = k8 + (1 : Int32) := ⟨_, rfl⟩
        refine oW.iadd (pc' := 188) K at_187 ev187 rfl ?_
        exact J v187 (oC_n ev187 (oR_n hr9 c179))
    intro k9 hk9
    refine oW.istore (Ls' := #[.val (.int p0), .val (.int p1), .val (.int p2), .val (.int p3), .val (.int p4), .val (.int p5), .val (.int (2 : Int32)), .val (.ref a11), .val (.int r8), .val (.int r9), .val (.int (0 : Int32)), .val (.int (0 : Int32)), .val (.int (0 : Int32)), .val (.int k8), .val (.int k9), .unset, .unset, .unset, .unset, .unset, .unset, .unset, .unset, .unset, .unset]) (pc' := 190) K at_188 rfl rfl ?_
    refine oW.iload (pc' := 192) K at_190 rfl rfl ?_
    refine oW.iload (pc' := 194) K at_192 rfl rfl ?_
    refine oW.if_eq (pc' := 201) (pc3 := 197) K at_194 (by decide) (by decide) rfl (fun _ => ?_) (fun q => absurd q (by decide))
    refine oW.iconst (v := (0 : Int32)) (pc' := 202) K at_201 (by decide) rfl ?_
    obtain ⟨v202, ev202⟩ : ∃ z : Int32, z = k9 + (0 : Int32) := ⟨_, rfl⟩
    refine oW.iadd (pc' := 203) K at_202 ev202 rfl ?_
    refine oW.istore (Ls' := #[.val (.int p0), .val (.int p1), .val (.int p2), .val (.int p3), .val (.int p4), .val (.int p5), .val (.int (2 : Int32)), .val (.ref a11), .val (.int r8), .val (.int r9), .val (.int (0 : Int32)), .val (.int (0 : Int32)), .val (.int (0 : Int32)), .val (.int k8), .val (.int k9), .val (.int v202), .unset, .unset, .unset, .unset, .unset, .unset, .unset, .unset, .unset]) (pc' := 205) K at_203 rfl rfl ?_
    refine oW.iload (pc' := 207) K at_205 rfl rfl ?_
    refine oW.iload (pc' := 209) K at_207 rfl rfl ?_
    refine oW.if_eq (pc' := 216) (pc3 := 212) K at_209 (by decide) (by decide) rfl (fun _ => ?_) (fun q => absurd q (by decide))
    refine oW.iconst (v := (0 : Int32)) (pc' := 217) K at_216 (by decide) rfl ?_
    obtain ⟨v217, ev217⟩ : ∃ z : Int32, z = v202 + (0 : Int32) := ⟨_, rfl⟩
    refine oW.iadd (pc' := 218) K at_217 ev217 rfl ?_
    refine oW.istore (Ls' := #[.val (.int p0), .val (.int p1), .val (.int p2), .val (.int p3), .val (.int p4), .val (.int p5), .val (.int (2 : Int32)), .val (.ref a11), .val (.int r8), .val (.int r9), .val (.int (0 : Int32)), .val (.int (0 : Int32)), .val (.int (0 : Int32)), .val (.int k8), .val (.int k9), .val (.int v202), .val (.int v217), .unset, .unset, .unset, .unset, .unset, .unset, .unset, .unset]) (pc' := 220) K at_218 rfl rfl ?_
    refine oW.iload (pc' := 222) K at_220 rfl rfl ?_
    refine oW.iload (pc' := 224) K at_222 rfl rfl ?_
    refine oW.if_eq (pc' := 231) (pc3 := 227) K at_224 (by decide) (by decide) rfl (fun _ => ?_) (fun q => absurd q (by decide))
    refine oW.iconst (v := (0 : Int32)) (pc' := 232) K at_231 (by decide) rfl ?_
    obtain ⟨v232, ev232⟩ : ∃ z : Int32, z = v217 + (0 : Int32) := ⟨_, rfl⟩
    refine oW.iadd (pc' := 233) K at_232 ev232 rfl ?_
    refine oW.istore (Ls' := #[.val (.int p0), .val (.int p1), .val (.int p2), .val (.int p3), .val (.int p4), .val (.int p5), .val (.int (2 : Int32)), .val (.ref a11), .val (.int r8), .val (.int r9), .val (.int (0 : Int32)), .val (.int (0 : Int32)), .val (.int (0 : Int32)), .val (.int k8), .val (.int k9), .val (.int v202), .val (.int v217), .val (.int v232), .unset, .unset, .unset, .unset, .unset, .unset, .unset]) (pc' := 235) K at_233 rfl rfl ?_
    refine oW.dconst0 (pc' := 236) K at_235 rfl ?_
    refine oW.dstore (Ls' := #[.val (.int p0), .val (.int p1), .val (.int p2), .val (.int p3), .val (.int p4), .val (.int p5), .val (.int (2 : Int32)), .val (.ref a11), .val (.int r8), .val (.int r9), .val (.int (0 : Int32)), .val (.int (0 : Int32)), .val (.int (0 : Int32)), .val (.int k8), .val (.int k9), .val (.int v202), .val (.int v217), .val (.int v232), .val (.double (0 : UInt64)), .second, .unset, .unset, .unset, .unset, .unset]) (pc' := 238) K at_236 rfl rfl ?_
    refine oW.join (F := fun z : UInt64 => z = oS (0 : UInt64) k8 (4607182418800017408 : UInt64) p1 ∧ oMag 1059 z) (pcj := 253) (Lf := fun z => #[.val (.int p0), .val (.int p1), .val (.int p2), .val (.int p3), .val (.int p4), .val (.int p5), .val (.int (2 : Int32)), .val (.ref a11), .val (.int r8), .val (.int r9), .val (.int (0 : Int32)), .val (.int (0 : Int32)), .val (.int (0 : Int32)), .val (.int k8), .val (.int k9), .val (.int v202), .val (.int v217), .val (.int v232), .val (.double z), .second, .unset, .unset, .unset, .unset, .unset]) (Sf := fun z => []) (dsf := fun z => [(a11, .inl (.int, [(.int p1), (.int p2)]))]) ?_ ?_
    · intro J
      refine oW.iload (pc' := 240) K at_238 rfl rfl ?_
      refine oW.if_eq (pc' := 253) (pc3 := 243) K at_240 (by decide) (by decide) rfl (fun c240 => ?_) (fun c240 => ?_)
      · exact J (0 : UInt64) (⟨oS_z (oR_z hr8 c240), Jvm.Free.Fl.Mag64.mono (by unfold oMag Jvm.Free.Fl.Mag64; decide : oMag 1 (0 : UInt64)) (by decide)⟩)
      · refine oW.dload (pc' := 245) K at_243 rfl rfl ?_
        refine oW.iload (pc' := 247) K at_245 rfl rfl ?_
        obtain ⟨v247, ev247⟩ : ∃ z : UInt64, z = FP.i2d k8 := ⟨_, rfl⟩
        have mv247 : oMag 1056 v247 := oMI2D ev247
        refine oW.i2d (pc' := 248) K at_247 ev247 rfl ?_
        refine oW.dconst1 (pc' := 249) K at_248 rfl ?_
        obtain ⟨v249, ev249⟩ : ∃ z : UInt64, z = FP.ddiv v247 (4607182418800017408 : UInt64) := ⟨_, rfl⟩
        have mv249 : oMag 1057 v249 := oMDiv mv247 (by unfold Big64; decide : Big64 1023 (4607182418800017408 : UInt64)) ev249 (by decide)
        refine oW.ddiv (pc' := 250) K at_249 ev249 (oMNN mv249 (by decide)) rfl ?_
        obtain ⟨v250, ev250⟩ : ∃ z : UInt64, z = FP.dadd (0 : UInt64) v249 := ⟨_, rfl⟩
        have mv250 : oMag 1059 v250 := oMAdd (A := 1057) (Jvm.Free.Fl.Mag64.mono (by unfold oMag Jvm.Free.Fl.Mag64; decide : oMag 1 (0 : UInt64)) (by decide)) mv249 ev250 (by decide)
        refine oW.dadd (pc' := 251) K at_250 ev250 (oMNN mv250 (by decide)) rfl ?_
        refine oW.dstore (Ls' := #[.val (.int p0), .val (.int p1), .val (.int p2), .val (.int p3), .val (.int p4), .val (.int p5), .val (.int (2 : Int32)), .val (.ref a11), .val (.int r8), .val (.int r9), .val (.int (0 : Int32)), .val (.int (0 : Int32)), .val (.int (0 : Int32)), .val (.int k8), .val (.int k9), .val (.int v202), .val (.int v217), .val (.int v232), .val (.double v250), .second, .unset, .unset, .unset, .unset, .unset]) (pc' := 253) K at_251 rfl rfl ?_
        exact J v250 (⟨oS_n ev247 ev249 ev250 (oR_n hr8 c240) rfl, mv250⟩)
    intro s8 hs8
    obtain ⟨gs8, ms8⟩ := hs8
    refine oW.join (F := fun z : UInt64 => z = oS s8 k9 (4611686018427387904 : UInt64) p2 ∧ oMag 1061 z) (pcj := 270) (Lf := fun z => #[.val (.int p0), .val (.int p1), .val (.int p2), .val (.int p3), .val (.int p4), .val (.int p5), .val (.int (2 : Int32)), .val (.ref a11), .val (.int r8), .val (.int r9), .val (.int (0 : Int32)), .val (.int (0 : Int32)), .val (.int (0 : Int32)), .val (.int k8), .val (.int k9), .val (.int v202), .val (.int v217), .val (.int v232), .val (.double z), .second, .unset, .unset, .unset, .unset, .unset]) (Sf := fun z => []) (dsf := fun z => [(a11, .inl (.int, [(.int p1), (.int p2)]))]) ?_ ?_
    · intro J
      refine oW.iload (pc' := 255) K at_253 rfl rfl ?_
      refine oW.if_eq (pc' := 270) (pc3 := 258) K at_255 (by decide) (by decide) rfl (fun c255 => ?_) (fun c255 => ?_)
      · exact J s8 (⟨oS_z (oR_z hr9 c255), Jvm.Free.Fl.Mag64.mono ms8 (by decide)⟩)
      · refine oW.dload (pc' := 260) K at_258 rfl rfl ?_
        refine oW.iload (pc' := 262) K at_260 rfl rfl ?_
        obtain ⟨v262, ev262⟩ : ∃ z : UInt64, z = FP.i2d k9 := ⟨_, rfl⟩
        have mv262 : oMag 1056 v262 := oMI2D ev262
        refine oW.i2d (pc' := 263) K at_262 ev262 rfl ?_
        refine oW.ldc2D (pc' := 266) K (hw _ (List.mem_of_getElem? (i := 16) rfl)) at_263 rfl ?_
        obtain ⟨v266, ev266⟩ : ∃ z : UInt64, z = FP.ddiv v262 (4611686018427387904 : UInt64) := ⟨_, rfl⟩
        have mv266 : oMag 1056 v266 := oMDiv mv262 (by unfold Big64; decide : Big64 1024 (4611686018427387904 : UInt64)) ev266 (by decide)
        refine oW.ddiv (pc' := 267) K at_266 ev266 (oMNN mv266 (by decide)) rfl ?_
        obtain ⟨v267, ev267⟩ : ∃ z : UInt64, z = FP.dadd s8 v266 := ⟨_, rfl⟩
        have mv267 : oMag 1061 v267 := oMAdd (A := 1059) ms8 (Jvm.Free.Fl.Mag64.mono mv266 (by decide)) ev267 (by decide)
        refine oW.dadd (pc' := 268) K at_267 ev267 (oMNN mv267 (by decide)) rfl ?_
        refine oW.dstore (Ls' := #[.val (.int p0), .val (.int p1), .val (.int p2), .val (.int p3), .val (.int p4), .val (.int p5), .val (.int (2 : Int32)), .val (.ref a11), .val (.int r8), .val (.int r9), .val (.int (0 : Int32)), .val (.int (0 : Int32)), .val (.int (0 : Int32)), .val (.int k8), .val (.int k9), .val (.int v202), .val (.int v217), .val (.int v232), .val (.double v267), .second, .unset, .unset, .unset, .unset, .unset]) (pc' := 270) K at_268 rfl rfl ?_
        exact J v267 (⟨oS_n ev262 ev266 ev267 (oR_n hr9 c255) rfl, mv267⟩)
    intro s9 hs9
    obtain ⟨gs9, ms9⟩ := hs9
    refine oW.iload (pc' := 272) K at_270 rfl rfl ?_
    refine oW.if_eq (pc' := 287) (pc3 := 275) K at_272 (by decide) (by decide) rfl (fun _ => ?_) (fun q => absurd q (by decide))
    refine oW.iload (pc' := 289) K at_287 rfl rfl ?_
    refine oW.if_eq (pc' := 304) (pc3 := 292) K at_289 (by decide) (by decide) rfl (fun _ => ?_) (fun q => absurd q (by decide))
    refine oW.iload (pc' := 306) K at_304 rfl rfl ?_
    refine oW.if_eq (pc' := 321) (pc3 := 309) K at_306 (by decide) (by decide) rfl (fun _ => ?_) (fun q => absurd q (by decide))
    refine oW.join (F := fun z : UInt64 => z = oFin v232 s9 ∧ Jvm.Free.Fl.NoNaN64 z) (pcj := 336) (Lf := fun z => #[.val (.int p0), .val (.int p1), .val (.int p2), .val (.int p3), .val (.int p4), .val (.int p5), .val (.int (2 : Int32)), .val (.ref a11), .val (.int r8), .val (.int r9), .val (.int (0 : Int32)), .val (.int (0 : Int32)), .val (.int (0 : Int32)), .val (.int k8), .val (.int k9), .val (.int v202), .val (.int v217), .val (.int v232), .val (.double s9), .second, .unset, .unset, .unset, .unset, .unset]) (Sf := fun z => [(.double z)]) (dsf := fun z => [(a11, .inl (.int, [(.int p1), (.int p2)]))]) ?_ ?_
    · intro J
      refine oW.iload (pc' := 323) K at_321 rfl rfl ?_
      refine oW.if_le (pc' := 335) (pc3 := 326) K at_323 (by decide) (by decide) rfl (fun c323 => ?_) (fun c323 => ?_)
      · refine oW.dconst0 (pc' := 336) K at_335 rfl ?_
        exact J (0 : UInt64) (⟨oF_n c323, oMNN (by unfold oMag Jvm.Free.Fl.Mag64; decide : oMag 1 (0 : UInt64)) (by decide)⟩)
      · refine oW.dload (pc' := 328) K at_326 rfl rfl ?_
        refine oW.iload (pc' := 330) K at_328 rfl rfl ?_
        obtain ⟨v330, ev330⟩ : ∃ z : UInt64, z = FP.i2d v232 := ⟨_, rfl⟩
        have mv330 : oMag 1056 v330 := oMI2D ev330
        refine oW.i2d (pc' := 331) K at_330 ev330 rfl ?_
        obtain ⟨v331, ev331⟩ : ∃ z : UInt64, z = FP.ddiv s9 v330 := ⟨_, rfl⟩
        have mv331 : oMag 1062 v331 := oMDiv ms9 (oBigI ev330 c323) ev331 (by decide)
        refine oW.ddiv (pc' := 332) K at_331 ev331 (oMNN mv331 (by decide)) rfl ?_
        refine oW.goto (pc' := 336) K at_332 (by decide) (by decide) ?_
        exact J v331 (⟨oF_p ev330 ev331 c323, oMNN mv331 (by decide)⟩)
    intro ex hex
    obtain ⟨gex, nex⟩ := hex
    refine oW.dstore (Ls' := #[.val (.int p0), .val (.int p1), .val (.int p2), .val (.int p3), .val (.int p4), .val (.int p5), .val (.int (2 : Int32)), .val (.ref a11), .val (.int r8), .val (.int r9), .val (.int (0 : Int32)), .val (.int (0 : Int32)), .val (.int (0 : Int32)), .val (.int k8), .val (.int k9), .val (.int v202), .val (.int v217), .val (.int v232), .val (.double s9), .second, .val (.double ex), .second, .unset, .unset, .unset]) (pc' := 338) K at_336 rfl rfl ?_
    refine oW.new (fs := []) (cells' := 2) (slots' := 2) (dsf := fun z => [(a11, .inl (.int, [(.int p1), (.int p2)])), (z, .inr ("com/example/ordevo/ordevo/AveragePrecision", []))]) (pc' := 341) K (hw _ (List.mem_of_getElem? (i := 2) rfl)) (hw _ (List.mem_of_getElem? (i := 3) rfl)) (hw _ (List.mem_of_getElem? (i := 4) rfl)) (oLd_0 hw) at_338 (by decide) (by decide) rfl rfl (fun _ => rfl) rfl ?_
    intro a338 ha338
    refine oW.dup (pc' := 342) K at_341 rfl rfl ?_
    refine oW.callI (a := a338) (argsL := []) (S := [(.ref a338)]) (rm := ({ frames := 1, cells := 0, slots := 0, locals := 12 } : Room)) (W := 1) (cells' := 2) (slots' := 2) (pc' := 345) K rfl (hw _ (List.mem_of_getElem? (i := 5) rfl)) (hw _ (List.mem_of_getElem? (i := 6) rfl)) (hw _ (List.mem_of_getElem? (i := 4) rfl)) (hw _ (List.mem_of_getElem? (i := 7) rfl)) (by decide) (own_init hw a338 _) (lenOf pd_0 rfl) at_342 rfl rfl (Nat.le_of_eq rfl) (by decide) (by decide) (by decide) (by decide) rfl rfl rfl ?_
    rintro _ rfl
    refine oW.aload (pc' := 347) K at_345 rfl rfl rfl ?_
    refine oW.callV (a := a338) (argsL := [(.ref a11)]) (S := []) (rm := ({ frames := 0, cells := 0, slots := 0, locals := 0 } : Room)) (W := 0) (cells' := 2) (slots' := 2) (pc' := 350) K (hw _ (List.mem_of_getElem? (i := 11) rfl)) (hw _ (List.mem_of_getElem? (i := 12) rfl)) (hw _ (List.mem_of_getElem? (i := 14) rfl)) (hw _ (List.mem_of_getElem? (i := 13) rfl)) (hw _ (List.mem_of_getElem? (i := 15) rfl)) (hw _ (List.mem_of_getElem? (i := 4) rfl)) (by decide) (oNF (hw _ (List.mem_of_getElem? (i := 14) rfl))) (fun _ M => oMem.exa (i := 1) rfl M) (own_ev2 hw a338 a11 p1 p2) (lenOf pd_1 rfl) at_347 rfl rfl (Nat.le_of_eq rfl) (by decide) (by decide) (by decide) (by decide) rfl rfl rfl ?_
    rintro _ _ ⟨got, rfl, ⟨ggot, ngot⟩, rfl⟩
    refine oW.dstore (Ls' := #[.val (.int p0), .val (.int p1), .val (.int p2), .val (.int p3), .val (.int p4), .val (.int p5), .val (.int (2 : Int32)), .val (.ref a11), .val (.int r8), .val (.int r9), .val (.int (0 : Int32)), .val (.int (0 : Int32)), .val (.int (0 : Int32)), .val (.int k8), .val (.int k9), .val (.int v202), .val (.int v217), .val (.int v232), .val (.double s9), .second, .val (.double ex), .second, .val (.double got), .second, .unset]) (pc' := 352) K at_350 rfl rfl ?_
    refine oW.iload (pc' := 354) K at_352 rfl rfl ?_
    refine oW.iconst (v := (1 : Int32)) (pc' := 355) K at_354 (by decide) rfl ?_
    refine oW.icmp_lt (pc' := 366) (pc3 := 358) K at_355 (by decide) (by decide) rfl (fun q => absurd q (by decide)) (fun _ => ?_)
    refine oW.aload (pc' := 360) K at_358 rfl rfl rfl ?_
    refine oW.iconst (v := (0 : Int32)) (pc' := 361) K at_360 (by decide) rfl ?_
    refine oW.iaload (i := 0) (k := 0) (pc' := 362) K at_361 rfl rfl (by decide) rfl rfl ?_
    refine oW.iloadN (pc' := 363) K at_362 rfl rfl ?_
    refine oW.icmp_ne (pc' := 428) (pc3 := 366) K at_363 (by decide) (by decide) rfl (fun q => absurd rfl q) (fun c363 => ?_)
    refine oW.iload (pc' := 368) K at_366 rfl rfl ?_
    refine oW.iconst (v := (2 : Int32)) (pc' := 369) K at_368 (by decide) rfl ?_
    refine oW.icmp_lt (pc' := 380) (pc3 := 372) K at_369 (by decide) (by decide) rfl (fun q => absurd q (by decide)) (fun _ => ?_)
    refine oW.aload (pc' := 374) K at_372 rfl rfl rfl ?_
    refine oW.iconst (v := (1 : Int32)) (pc' := 375) K at_374 (by decide) rfl ?_
    refine oW.iaload (i := 0) (k := 1) (pc' := 376) K at_375 rfl rfl (by decide) rfl rfl ?_
    refine oW.iloadN (pc' := 377) K at_376 rfl rfl ?_
    refine oW.icmp_ne (pc' := 428) (pc3 := 380) K at_377 (by decide) (by decide) rfl (fun q => absurd rfl q) (fun c377 => ?_)
    refine oW.iload (pc' := 382) K at_380 rfl rfl ?_
    refine oW.iconst (v := (3 : Int32)) (pc' := 383) K at_382 (by decide) rfl ?_
    refine oW.icmp_lt (pc' := 394) (pc3 := 386) K at_383 (by decide) (by decide) rfl (fun _ => ?_) (fun q => absurd q (by decide))
    refine oW.iload (pc' := 396) K at_394 rfl rfl ?_
    refine oW.iconst (v := (4 : Int32)) (pc' := 397) K at_396 (by decide) rfl ?_
    refine oW.icmp_lt (pc' := 409) (pc3 := 400) K at_397 (by decide) (by decide) rfl (fun _ => ?_) (fun q => absurd q (by decide))
    refine oW.iload (pc' := 411) K at_409 rfl rfl ?_
    refine oW.iconst (v := (5 : Int32)) (pc' := 412) K at_411 (by decide) rfl ?_
    refine oW.icmp_lt (pc' := 424) (pc3 := 415) K at_412 (by decide) (by decide) rfl (fun _ => ?_) (fun q => absurd q (by decide))
    refine oW.iconst (v := (1 : Int32)) (pc' := 425) K at_424 (by decide) rfl ?_
    refine oW.goto (pc' := 429) K at_425 (by decide) (by decide) ?_
    refine oW.istore (Ls' := #[.val (.int p0), .val (.int p1), .val (.int p2), .val (.int p3), .val (.int p4), .val (.int p5), .val (.int (2 : Int32)), .val (.ref a11), .val (.int r8), .val (.int r9), .val (.int (0 : Int32)), .val (.int (0 : Int32)), .val (.int (0 : Int32)), .val (.int k8), .val (.int k9), .val (.int v202), .val (.int v217), .val (.int v232), .val (.double s9), .second, .val (.double ex), .second, .val (.double got), .second, .val (.int (1 : Int32))]) (pc' := 431) K at_429 rfl rfl ?_
    refine oW.dload (pc' := 433) K at_431 rfl rfl ?_
    refine oW.dload (pc' := 435) K at_433 rfl rfl ?_
    obtain ⟨v435, ev435⟩ : ∃ z : Int32, z = cmpValue (FP.dcmp got ex) .l := ⟨_, rfl⟩
    refine oW.dcmp (pc' := 436) K at_435 ev435 rfl ?_
    refine oW.if_ne (pc' := 448) (pc3 := 439) K at_436 (by decide) (by decide) rfl (fun q => absurd (oSame ev435 (by rw [ggot, gex]; subst_vars; simp only [Int32.add_zero]) ngot) q) (fun c436 => ?_)
    refine oW.iload (pc' := 441) K at_439 rfl rfl ?_
    refine oW.if_eq (pc' := 448) (pc3 := 444) K at_441 (by decide) (by decide) rfl (fun q => absurd q (by decide)) (fun _ => ?_)
    refine oW.iconst (v := (1 : Int32)) (pc' := 445) K at_444 (by decide) rfl ?_
    refine oW.goto (pc' := 449) K at_445 (by decide) (by decide) ?_
    exact oW.retB K rfl at_449 (by decide) (by decide) ⟨_, rfl, rfl⟩
  · subst hv6
    refine oW.iload (pc' := 11) K at_9 rfl rfl ?_
    refine oW.newarr (n := 3) (cells' := 1) (slots' := 3) (dsf := fun z => [(z, .inl (.int, [(.int (0 : Int32)), (.int (0 : Int32)), (.int (0 : Int32))]))]) (pc' := 13) K (hw _ (List.mem_of_getElem? (i := 1) rfl)) at_11 rfl (by decide) (by decide) (by decide) (by decide) rfl rfl (fun _ => rfl) rfl ?_
    intro a11 ha11
    refine oW.astore (Ls' := #[.val (.int p0), .val (.int p1), .val (.int p2), .val (.int p3), .val (.int p4), .val (.int p5), .val (.int (3 : Int32)), .val (.ref a11), .unset, .unset, .unset, .unset, .unset, .unset, .unset, .unset, .unset, .unset, .unset, .unset, .unset, .unset, .unset, .unset, .unset]) (pc' := 15) K at_13 rfl rfl rfl ?_
    refine oW.iload (pc' := 17) K at_15 rfl rfl ?_
    refine oW.if_le (pc' := 25) (pc3 := 20) K at_17 (by decide) (by decide) rfl (fun q => absurd q (by decide)) (fun _ => ?_)
    refine oW.aload (pc' := 22) K at_20 rfl rfl rfl ?_
    refine oW.iconst (v := (0 : Int32)) (pc' := 23) K at_22 (by decide) rfl ?_
    refine oW.iloadN (pc' := 24) K at_23 rfl rfl ?_
    refine oW.iastore (i := 0) (k := 0) (ds' := [(a11, .inl (.int, [(.int p1), (.int (0 : Int32)), (.int (0 : Int32))]))]) (pc' := 25) K at_24 rfl rfl (by decide) (Nat.lt_of_sub_eq_succ rfl) rfl rfl ?_
    refine oW.iload (pc' := 27) K at_25 rfl rfl ?_
    refine oW.iconst (v := (1 : Int32)) (pc' := 28) K at_27 (by decide) rfl ?_
    refine oW.icmp_le (pc' := 36) (pc3 := 31) K at_28 (by decide) (by decide) rfl (fun q => absurd q (by decide)) (fun _ => ?_)
    refine oW.aload (pc' := 33) K at_31 rfl rfl rfl ?_
    refine oW.iconst (v := (1 : Int32)) (pc' := 34) K at_33 (by decide) rfl ?_
    refine oW.iloadN (pc' := 35) K at_34 rfl rfl ?_
    refine oW.iastore (i := 0) (k := 1) (ds' := [(a11, .inl (.int, [(.int p1), (.int p2), (.int (0 : Int32))]))]) (pc' := 36) K at_35 rfl rfl (by decide) (Nat.lt_of_sub_eq_succ rfl) rfl rfl ?_
    refine oW.iload (pc' := 38) K at_36 rfl rfl ?_
    refine oW.iconst (v := (2 : Int32)) (pc' := 39) K at_38 (by decide) rfl ?_
    refine oW.icmp_le (pc' := 47) (pc3 := 42) K at_39 (by decide) (by decide) rfl (fun q => absurd q (by decide)) (fun _ => ?_)
    refine oW.aload (pc' := 44) K at_42 rfl rfl rfl ?_
    refine oW.iconst (v := (2 : Int32)) (pc' := 45) K at_44 (by decide) rfl ?_
    refine oW.iloadN (pc' := 46) K at_45 rfl rfl ?_
    refine oW.iastore (i := 0) (k := 2) (ds' := [(a11, .inl (.int, [(.int p1), (.int p2), (.int p3)]))]) (pc' := 47) K at_46 rfl rfl (by decide) (Nat.lt_of_sub_eq_succ rfl) rfl rfl ?_
    refine oW.iload (pc' := 49) K at_47 rfl rfl ?_
    refine oW.iconst (v := (3 : Int32)) (pc' := 50) K at_49 (by decide) rfl ?_
    refine oW.icmp_le (pc' := 59) (pc3 := 53) K at_50 (by decide) (by decide) rfl (fun _ => ?_) (fun q => absurd q (by decide))
    refine oW.iload (pc' := 61) K at_59 rfl rfl ?_
    refine oW.iconst (v := (4 : Int32)) (pc' := 62) K at_61 (by decide) rfl ?_
    refine oW.icmp_le (pc' := 71) (pc3 := 65) K at_62 (by decide) (by decide) rfl (fun _ => ?_) (fun q => absurd q (by decide))
    refine oW.iload (pc' := 73) K at_71 rfl rfl ?_
    refine oW.iconst (v := (1 : Int32)) (pc' := 74) K at_73 (by decide) rfl ?_
    refine oW.icmp_lt (pc' := 86) (pc3 := 77) K at_74 (by decide) (by decide) rfl (fun q => absurd q (by decide)) (fun _ => ?_)
    refine oW.join (F := fun z : Int32 => z = oR p1) (pcj := 87) (Lf := fun z => #[.val (.int p0), .val (.int p1), .val (.int p2), .val (.int p3), .val (.int p4), .val (.int p5), .val (.int (3 : Int32)), .val (.ref a11), .unset, .unset, .unset, .unset, .unset, .unset, .unset, .unset, .unset, .unset, .unset, .unset, .unset, .unset, .unset, .unset, .unset]) (Sf := fun z => [(.int z)]) (dsf := fun z => [(a11, .inl (.int, [(.int p1), (.int p2), (.int p3)]))]) ?_ ?_
    · intro J
      refine oW.iloadN (pc' := 78) K at_77 rfl rfl ?_
      refine oW.iconst (v := (1 : Int32)) (pc' := 79) K at_78 (by decide) rfl ?_
      refine oW.icmp_lt (pc' := 86) (pc3 := 82) K at_79 (by decide) (by decide) rfl (fun c79 => ?_) (fun c79 => ?_)
      · refine oW.iconst (v := (0 : Int32)) (pc' := 87) K at_86 (by decide) rfl ?_
        exact J (0 : Int32) (oR_0 c79)
      · refine oW.iconst (v := (1 : Int32)) (pc' := 83) K at_82 (by decide) rfl ?_
        refine oW.goto (pc' := 87) K at_83 (by decide) (by decide) ?_
        exact J (1 : Int32) (oR_1 c79)
    intro r8 hr8
    refine oW.istore (Ls' := #[.val (.int p0), .val (.int p1), .val (.int p2), .val (.int p3), .val (.int p4), .val (.int p5), .val (.int (3 : Int32)), .val (.ref a11), .val (.int r8), .unset, .unset, .unset, .unset, .unset, .unset, .unset, .unset, .unset, .unset, .unset, .unset, .unset, .unset, .unset, .unset]) (pc' := 89) K at_87 rfl rfl ?_
    refine oW.iload (pc' := 91) K at_89 rfl rfl ?_
    refine oW.iconst (v := (2 : Int32)) (pc' := 92) K at_91 (by decide) rfl ?_
    refine oW.icmp_lt (pc' := 104) (pc3 := 95) K at_92 (by decide) (by decide) rfl (fun q => absurd q (by decide)) (fun _ => ?_)
    refine oW.join (F := fun z : Int32 => z = oR p2) (pcj := 105) (Lf := fun z => #[.val (.int p0), .val (.int p1), .val (.int p2), .val (.int p3), .val (.int p4), .val (.int p5), .val (.int (3 : Int32)), .val (.ref a11), .val (.int r8), .unset, .unset, .unset, .unset, .unset, .unset, .unset, .unset, .unset, .unset, .unset, .unset, .unset, .unset, .unset, .unset]) (Sf := fun z => [(.int z)]) (dsf := fun z => [(a11, .inl (.int, [(.int p1), (.int p2), (.int p3)]))]) ?_ ?_
    · intro J
      refine oW.iloadN (pc' := 96) K at_95 rfl rfl ?_
      refine oW.iconst (v := (1 : Int32)) (pc' := 97) K at_96 (by decide) rfl ?_
      refine oW.icmp_lt (pc' := 104) (pc3 := 100) K at_97 (by decide) (by decide) rfl (fun c97 => ?_) (fun c97 => ?_)
      · refine oW.iconst (v := (0 : Int32)) (pc' := 105) K at_104 (by decide) rfl ?_
        exact J (0 : Int32) (oR_0 c97)
      · refine oW.iconst (v := (1 : Int32)) (pc' := 101) K at_100 (by decide) rfl ?_
        refine oW.goto (pc' := 105) K at_101 (by decide) (by decide) ?_
        exact J (1 : Int32) (oR_1 c97)
    intro r9 hr9
    refine oW.istore (Ls' := #[.val (.int p0), .val (.int p1), .val (.int p2), .val (.int p3), .val (.int p4), .val (.int p5), .val (.int (3 : Int32)), .val (.ref a11), .val (.int r8), .val (.int r9), .unset, .unset, .unset, .unset, .unset, .unset, .unset, .unset, .unset, .unset, .unset, .unset, .unset, .unset, .unset]) (pc' := 107) K at_105 rfl rfl ?_
    refine oW.iload (pc' := 109) K at_107 rfl rfl ?_
    refine oW.iconst (v := (3 : Int32)) (pc' := 110) K at_109 (by decide) rfl ?_
    refine oW.icmp_lt (pc' := 122) (pc3 := 113) K at_110 (by decide) (by decide) rfl (fun q => absurd q (by decide)) (fun _ => ?_)
    refine oW.join (F := fun z : Int32 => z = oR p3) (pcj := 123) (Lf := fun z => #[.val (.int p0), .val (.int p1), .val (.int p2), .val (.int p3), .val (.int p4), .val (.int p5), .val (.int (3 : Int32)), .val (.ref a11), .val (.int r8), .val (.int r9), .unset, .unset, .unset, .unset, .unset, .unset, .unset, .unset, .unset, .unset, .unset, .unset, .unset, .unset, .unset]) (Sf := fun z => [(.int z)]) (dsf := fun z => [(a11, .inl (.int, [(.int p1), (.int p2), (.int p3)]))]) ?_ ?_
    · intro J
      refine oW.iloadN (pc' := 114) K at_113 rfl rfl ?_
      refine oW.iconst (v := (1 : Int32)) (pc' := 115) K at_114 (by decide) rfl ?_
      refine oW.icmp_lt (pc' := 122) (pc3 := 118) K at_115 (by decide) (by decide) rfl (fun c115 => ?_) (fun c115 => ?_)
      · refine oW.iconst (v := (0 : Int32)) (pc' := 123) K at_122 (by decide) rfl ?_
        exact J (0 : Int32) (oR_0 c115)
      · refine oW.iconst (v := (1 : Int32)) (pc' := 119) K at_118 (by decide) rfl ?_
        refine oW.goto (pc' := 123) K at_119 (by decide) (by decide) ?_
        exact J (1 : Int32) (oR_1 c115)
    intro r10 hr10
    refine oW.istore (Ls' := #[.val (.int p0), .val (.int p1), .val (.int p2), .val (.int p3), .val (.int p4), .val (.int p5), .val (.int (3 : Int32)), .val (.ref a11), .val (.int r8), .val (.int r9), .val (.int r10), .unset, .unset, .unset, .unset, .unset, .unset, .unset, .unset, .unset, .unset, .unset, .unset, .unset, .unset]) (pc' := 125) K at_123 rfl rfl ?_
    refine oW.iload (pc' := 127) K at_125 rfl rfl ?_
    refine oW.iconst (v := (4 : Int32)) (pc' := 128) K at_127 (by decide) rfl ?_
    refine oW.icmp_lt (pc' := 141) (pc3 := 131) K at_128 (by decide) (by decide) rfl (fun _ => ?_) (fun q => absurd q (by decide))
    refine oW.iconst (v := (0 : Int32)) (pc' := 142) K at_141 (by decide) rfl ?_
    refine oW.istore (Ls' := #[.val (.int p0), .val (.int p1), .val (.int p2), .val (.int p3), .val (.int p4), .val (.int p5), .val (.int (3 : Int32)), .val (.ref a11), .val (.int r8), .val (.int r9), .val (.int r10), .val (.int (0 : Int32)), .unset, .unset, .unset, .unset, .unset, .unset, .unset, .unset, .unset, .unset, .unset, .unset, .unset]) (pc' := 144) K at_142 rfl rfl ?_
    refine oW.iload (pc' := 146) K at_144 rfl rfl ?_
    refine oW.iconst (v := (5 : Int32)) (pc' := 147) K at_146 (by decide) rfl ?_
    refine oW.icmp_lt (pc' := 160) (pc3 := 150) K at_147 (by decide) (by decide) rfl (fun _ => ?_) (fun q => absurd q (by decide))
    refine oW.iconst (v := (0 : Int32)) (pc' := 161) K at_160 (by decide) rfl ?_
    refine oW.istore (Ls' := #[.val (.int p0), .val (.int p1), .val (.int p2), .val (.int p3), .val (.int p4), .val (.int p5), .val (.int (3 : Int32)), .val (.ref a11), .val (.int r8), .val (.int r9), .val (.int r10), .val (.int (0 : Int32)), .val (.int (0 : Int32)), .unset, .unset, .unset, .unset, .unset, .unset, .unset, .unset, .unset, .unset, .unset, .unset]) (pc' := 163) K at_161 rfl rfl ?_
    refine oW.join (F := fun z : Int32 => z = oC (0 : Int32) p1) (pcj := 173) (Lf := fun z => #[.val (.int p0), .val (.int p1), .val (.int p2), .val (.int p3), .val (.int p4), .val (.int p5), .val (.int (3 : Int32)), .val (.ref a11), .val (.int r8), .val (.int r9), .val (.int r10), .val (.int (0 : Int32)), .val (.int (0 : Int32)), .unset, .unset, .unset, .unset, .unset, .unset, .unset, .unset, .unset, .unset, .unset, .unset]) (Sf := fun z => [(.int z)]) (dsf := fun z => [(a11, .inl (.int, [(.int p1), (.int p2), (.int p3)]))]) ?_ ?_
    · intro J
      refine oW.iload (pc' := 165) K at_163 rfl rfl ?_
      refine oW.if_eq (pc' := 172) (pc3 := 168) K at_165 (by decide) (by decide) rfl (fun c165 => ?_) (fun c165 => ?_)
      · refine oW.iconst (v := (0 : Int32)) (pc' := 173) K at_172 (by decide) rfl ?_
        exact J (0 : Int32) (oC_z rfl (oR_z hr8 c165))
      · refine oW.iconst (v := (1 : Int32)) (pc' := 169) K at_168 (by decide) rfl ?_
        refine oW.goto (pc' := 173) K at_169 (by decide) (by decide) ?_
        exact J (1 : Int32) (oC_n (by decide) (oR_n hr8 c165))
    intro k8 hk8
    refine oW.istore (Ls' := #[.val (.int p0), .val (.int p1), .val (.int p2), .val (.int p3), .val (.int p4), .val (.int p5), .val (.int (3 : Int32)), .val (.ref a11), .val (.int r8), .val (.int r9), .val (.int r10), .val (.int (0 : Int32)), .val (.int (0 : Int32)), .val (.int k8), .unset, .unset, .unset, .unset, .unset, .unset, .unset, .unset, .unset, .unset, .unset]) (pc' := 175) K at_173 rfl rfl ?_
    refine oW.join (F := fun z : Int32 => z = oC k8 p2) (pcj := 188) (Lf := fun z => #[.val (.int p0), .val (.int p1), .val (.int p2), .val (.int p3), .val (.int p4), .val (.int p5), .val (.int (3 : Int32)), .val (.ref a11), .val (.int r8), .val (.int r9), .val (.int r10), .val (.int (0 : Int32)), .val (.int (0 : Int32)), .val (.int k8), .unset, .unset, .unset, .unset, .unset, .unset, .unset, .unset, .unset, .unset, .unset]) (Sf := fun z => [(.int z)]) (dsf := fun z => [(a11, .inl (.int, [(.int p1), (.int p2), (.int p3)]))]) ?_ ?_
    · intro J
      refine oW.iload (pc' := 177) K at_175 rfl rfl ?_
      refine oW.iload (pc' := 179) K at_177 rfl rfl ?_
      refine oW.if_eq (pc' := 186) (pc3 := 182) K at_179 (by decide) (by decide) rfl (fun c179 => ?_) (fun c179 => ?_)
      · refine oW.iconst (v := (0 : Int32)) (pc' := 187) K at_186 (by decide) rfl ?_
        obtain ⟨v187, ev187⟩ : ∃ z : Int32, z = k8 + (0 : Int32) := ⟨_, rfl⟩
        refine oW.iadd (pc' := 188) K at_187 ev187 rfl ?_
        exact J v187 (oC_z (ev187.trans (Int32.add_zero _)) (oR_z hr9 c179))
      · refine oW.iconst (v := (1 : Int32)) (pc' := 183) K at_182 (by decide) rfl ?_
        refine oW.goto (pc' := 187) K at_183 (by decide) (by decide) ?_
        obtain ⟨v187, ev187⟩ : ∃ z : Int32, z = k8 + (1 : Int32) := ⟨_, rfl⟩
        refine oW.iadd (pc' := 188) K at_187 ev187 rfl ?_
        exact J v187 (oC_n ev187 (oR_n hr9 c179))
    intro k9 hk9
    refine oW.istore (Ls' := #[.val (.int p0), .val (.int p1), .val (.int p2), .val (.int p3), .val (.int p4), .val (.int p5), .val (.int (3 : Int32)), .val (.ref a11), .val (.int r8), .val (.int r9), .val (.int r10), .val (.int (0 : Int32)), .val (.int (0 : Int32)), .val (.int k8), .val (.int k9), .unset, .unset, .unset, .unset, .unset, .unset, .unset, .unset, .unset, .unset]) (pc' := 190) K at_188 rfl rfl ?_
    refine oW.join (F := fun z : Int32 => z = oC k9 p3) (pcj := 203) (Lf := fun z => #[.val (.int p0), .val (.int p1), .val (.int p2), .val (.int p3), .val (.int p4), .val (.int p5), .val (.int (3 : Int32)), .val (.ref a11), .val (.int r8), .val (.int r9), .val (.int r10), .val (.int (0 : Int32)), .val (.int (0 : Int32)), .val (.int k8), .val (.int k9), .unset, .unset, .unset, .unset, .unset, .unset, .unset, .unset, .unset, .unset]) (Sf := fun z => [(.int z)]) (dsf := fun z => [(a11, .inl (.int, [(.int p1), (.int p2), (.int p3)]))]) ?_ ?_
    · intro J
      refine oW.iload (pc' := 192) K at_190 rfl rfl ?_
      refine oW.iload (pc' := 194) K at_192 rfl rfl ?_
      refine oW.if_eq (pc' := 201) (pc3 := 197) K at_194 (by decide) (by decide) rfl (fun c194 => ?_) (fun c194 => ?_)
      · refine oW.iconst (v := (0 : Int32)) (pc' := 202) K at_201 (by decide) rfl ?_
        obtain ⟨v202, ev202⟩ : ∃ z : Int32, z = k9 + (0 : Int32) := ⟨_, rfl⟩
        refine oW.iadd (pc' := 203) K at_202 ev202 rfl ?_
        exact J v202 (oC_z (ev202.trans (Int32.add_zero _)) (oR_z hr10 c194))
      · refine oW.iconst (v := (1 : Int32)) (pc' := 198) K at_197 (by decide) rfl ?_
        refine oW.goto (pc' := 202) K at_198 (by decide) (by decide) ?_
        obtain ⟨v202, ev202⟩ : ∃ z : Int32, z = k9 + (1 : Int32) := ⟨_, rfl⟩
        refine oW.iadd (pc' := 203) K at_202 ev202 rfl ?_
        exact J v202 (oC_n ev202 (oR_n hr10 c194))
    intro k10 hk10
    refine oW.istore (Ls' := #[.val (.int p0), .val (.int p1), .val (.int p2), .val (.int p3), .val (.int p4), .val (.int p5), .val (.int (3 : Int32)), .val (.ref a11), .val (.int r8), .val (.int r9), .val (.int r10), .val (.int (0 : Int32)), .val (.int (0 : Int32)), .val (.int k8), .val (.int k9), .val (.int k10), .unset, .unset, .unset, .unset, .unset, .unset, .unset, .unset, .unset]) (pc' := 205) K at_203 rfl rfl ?_
    refine oW.iload (pc' := 207) K at_205 rfl rfl ?_
    refine oW.iload (pc' := 209) K at_207 rfl rfl ?_
    refine oW.if_eq (pc' := 216) (pc3 := 212) K at_209 (by decide) (by decide) rfl (fun _ => ?_) (fun q => absurd q (by decide))
    refine oW.iconst (v := (0 : Int32)) (pc' := 217) K at_216 (by decide) rfl ?_
    obtain ⟨v217, ev217⟩ : ∃ z : Int32, z = k10 + (0 : Int32) := ⟨_, rfl⟩
    refine oW.iadd (pc' := 218) K at_217 ev217 rfl ?_
    refine oW.istore (Ls' := #[.val (.int p0), .val (.int p1), .val (.int p2), .val (.int p3), .val (.int p4), .val (.int p5), .val (.int (3 : Int32)), .val (.ref a11), .val (.int r8), .val (.int r9), .val (.int r10), .val (.int (0 : Int32)), .val (.int (0 : Int32)), .val (.int k8), .val (.int k9), .val (.int k10), .val (.int v217), .unset, .unset, .unset, .unset, .unset, .unset, .unset, .unset]) (pc' := 220) K at_218 rfl rfl ?_
    refine oW.iload (pc' := 222) K at_220 rfl rfl ?_
    refine oW.iload (pc' := 224) K at_222 rfl rfl ?_
    refine oW.if_eq (pc' := 231) (pc3 := 227) K at_224 (by decide) (by decide) rfl (fun _ => ?_) (fun q => absurd q (by decide))
    refine oW.iconst (v := (0 : Int32)) (pc' := 232) K at_231 (by decide) rfl ?_
    obtain ⟨v232, ev232⟩ : ∃ z : Int32, z = v217 + (0 : Int32) := ⟨_, rfl⟩
    refine oW.iadd (pc' := 233) K at_232 ev232 rfl ?_
    refine oW.istore (Ls' := #[.val (.int p0), .val (.int p1), .val (.int p2), .val (.int p3), .val (.int p4), .val (.int p5), .val (.int (3 : Int32)), .val (.ref a11), .val (.int r8), .val (.int r9), .val (.int r10), .val (.int (0 : Int32)), .val (.int (0 : Int32)), .val (.int k8), .val (.int k9), .val (.int k10), .val (.int v217), .val (.int v232), .unset, .unset, .unset, .unset, .unset, .unset, .unset]) (pc' := 235) K at_233 rfl rfl ?_
    refine oW.dconst0 (pc' := 236) K at_235 rfl ?_
    refine oW.dstore (Ls' := #[.val (.int p0), .val (.int p1), .val (.int p2), .val (.int p3), .val (.int p4), .val (.int p5), .val (.int (3 : Int32)), .val (.ref a11), .val (.int r8), .val (.int r9), .val (.int r10), .val (.int (0 : Int32)), .val (.int (0 : Int32)), .val (.int k8), .val (.int k9), .val (.int k10), .val (.int v217), .val (.int v232), .val (.double (0 : UInt64)), .second, .unset, .unset, .unset, .unset, .unset]) (pc' := 238) K at_236 rfl rfl ?_
    refine oW.join (F := fun z : UInt64 => z = oS (0 : UInt64) k8 (4607182418800017408 : UInt64) p1 ∧ oMag 1059 z) (pcj := 253) (Lf := fun z => #[.val (.int p0), .val (.int p1), .val (.int p2), .val (.int p3), .val (.int p4), .val (.int p5), .val (.int (3 : Int32)), .val (.ref a11), .val (.int r8), .val (.int r9), .val (.int r10), .val (.int (0 : Int32)), .val (.int (0 : Int32)), .val (.int k8), .val (.int k9), .val (.int k10), .val (.int v217), .val (.int v232), .val (.double z), .second, .unset, .unset, .unset, .unset, .unset]) (Sf := fun z => []) (dsf := fun z => [(a11, .inl (.int, [(.int p1), (.int p2), (.int p3)]))]) ?_ ?_
    · intro J
      refine oW.iload (pc' := 240) K at_238 rfl rfl ?_
      refine oW.if_eq (pc' := 253) (pc3 := 243) K at_240 (by decide) (by decide) rfl (fun c240 => ?_) (fun c240 => ?_)
      · exact J (0 : UInt64) (⟨oS_z (oR_z hr8 c240), Jvm.Free.Fl.Mag64.mono (by unfold oMag Jvm.Free.Fl.Mag64; decide : oMag 1 (0 : UInt64)) (by decide)⟩)
      · refine oW.dload (pc' := 245) K at_243 rfl rfl ?_
        refine oW.iload (pc' := 247) K at_245 rfl rfl ?_
        obtain ⟨v247, ev247⟩ : ∃ z : UInt64, z = FP.i2d k8 := ⟨_, rfl⟩
        have mv247 : oMag 1056 v247 := oMI2D ev247
        refine oW.i2d (pc' := 248) K at_247 ev247 rfl ?_
        refine oW.dconst1 (pc' := 249) K at_248 rfl ?_
        obtain ⟨v249, ev249⟩ : ∃ z : UInt64, z = FP.ddiv v247 (4607182418800017408 : UInt64) := ⟨_, rfl⟩
        have mv249 : oMag 1057 v249 := oMDiv mv247 (by unfold Big64; decide : Big64 1023 (4607182418800017408 : UInt64)) ev249 (by decide)
        refine oW.ddiv (pc' := 250) K at_249 ev249 (oMNN mv249 (by decide)) rfl ?_
        obtain ⟨v250, ev250⟩ : ∃ z : UInt64, z = FP.dadd (0 : UInt64) v249 := ⟨_, rfl⟩
        have mv250 : oMag 1059 v250 := oMAdd (A := 1057) (Jvm.Free.Fl.Mag64.mono (by unfold oMag Jvm.Free.Fl.Mag64; decide : oMag 1 (0 : UInt64)) (by decide)) mv249 ev250 (by decide)
        refine oW.dadd (pc' := 251) K at_250 ev250 (oMNN mv250 (by decide)) rfl ?_
        refine oW.dstore (Ls' := #[.val (.int p0), .val (.int p1), .val (.int p2), .val (.int p3), .val (.int p4), .val (.int p5), .val (.int (3 : Int32)), .val (.ref a11), .val (.int r8), .val (.int r9), .val (.int r10), .val (.int (0 : Int32)), .val (.int (0 : Int32)), .val (.int k8), .val (.int k9), .val (.int k10), .val (.int v217), .val (.int v232), .val (.double v250), .second, .unset, .unset, .unset, .unset, .unset]) (pc' := 253) K at_251 rfl rfl ?_
        exact J v250 (⟨oS_n ev247 ev249 ev250 (oR_n hr8 c240) rfl, mv250⟩)
    intro s8 hs8
    obtain ⟨gs8, ms8⟩ := hs8
    refine oW.join (F := fun z : UInt64 => z = oS s8 k9 (4611686018427387904 : UInt64) p2 ∧ oMag 1061 z) (pcj := 270) (Lf := fun z => #[.val (.int p0), .val (.int p1), .val (.int p2), .val (.int p3), .val (.int p4), .val (.int p5), .val (.int (3 : Int32)), .val (.ref a11), .val (.int r8), .val (.int r9), .val (.int r10), .val (.int (0 : Int32)), .val (.int (0 : Int32)), .val (.int k8), .val (.int k9), .val (.int k10), .val (.int v217), .val (.int v232), .val (.double z), .second, .unset, .unset, .unset, .unset, .unset]) (Sf := fun z => []) (dsf := fun z => [(a11, .inl (.int, [(.int p1), (.int p2), (.int p3)]))]) ?_ ?_
    · intro J
      refine oW.iload (pc' := 255) K at_253 rfl rfl ?_
      refine oW.if_eq (pc' := 270) (pc3 := 258) K at_255 (by decide) (by decide) rfl (fun c255 => ?_) (fun c255 => ?_)
      · exact J s8 (⟨oS_z (oR_z hr9 c255), Jvm.Free.Fl.Mag64.mono ms8 (by decide)⟩)
      · refine oW.dload (pc' := 260) K at_258 rfl rfl ?_
        refine oW.iload (pc' := 262) K at_260 rfl rfl ?_
        obtain ⟨v262, ev262⟩ : ∃ z : UInt64, z = FP.i2d k9 := ⟨_, rfl⟩
        have mv262 : oMag 1056 v262 := oMI2D ev262
        refine oW.i2d (pc' := 263) K at_262 ev262 rfl ?_
        refine oW.ldc2D (pc' := 266) K (hw _ (List.mem_of_getElem? (i := 16) rfl)) at_263 rfl ?_
        obtain ⟨v266, ev266⟩ : ∃ z : UInt64, z = FP.ddiv v262 (4611686018427387904 : UInt64) := ⟨_, rfl⟩
        have mv266 : oMag 1056 v266 := oMDiv mv262 (by unfold Big64; decide : Big64 1024 (4611686018427387904 : UInt64)) ev266 (by decide)
        refine oW.ddiv (pc' := 267) K at_266 ev266 (oMNN mv266 (by decide)) rfl ?_
        obtain ⟨v267, ev267⟩ : ∃ z : UInt64, z = FP.dadd s8 v266 := ⟨_, rfl⟩
        have mv267 : oMag 1061 v267 := oMAdd (A := 1059) ms8 (Jvm.Free.Fl.Mag64.mono mv266 (by decide)) ev267 (by decide)
        refine oW.dadd (pc' := 268) K at_267 ev267 (oMNN mv267 (by decide)) rfl ?_
        refine oW.dstore (Ls' := #[.val (.int p0), .val (.int p1), .val (.int p2), .val (.int p3), .val (.int p4), .val (.int p5), .val (.int (3 : Int32)), .val (.ref a11), .val (.int r8), .val (.int r9), .val (.int r10), .val (.int (0 : Int32)), .val (.int (0 : Int32)), .val (.int k8), .val (.int k9), .val (.int k10), .val (.int v217), .val (.int v232), .val (.double v267), .second, .unset, .unset, .unset, .unset, .unset]) (pc' := 270) K at_268 rfl rfl ?_
        exact J v267 (⟨oS_n ev262 ev266 ev267 (oR_n hr9 c255) rfl, mv267⟩)
    intro s9 hs9
    obtain ⟨gs9, ms9⟩ := hs9
    refine oW.join (F := fun z : UInt64 => z = oS s9 k10 (4613937818241073152 : UInt64) p3 ∧ oMag 1063 z) (pcj := 287) (Lf := fun z => #[.val (.int p0), .val (.int p1), .val (.int p2), .val (.int p3), .val (.int p4), .val (.int p5), .val (.int (3 : Int32)), .val (.ref a11), .val (.int r8), .val (.int r9), .val (.int r10), .val (.int (0 : Int32)), .val (.int (0 : Int32)), .val (.int k8), .val (.int k9), .val (.int k10), .val (.int v217), .val (.int v232), .val (.double z), .second, .unset, .unset, .unset, .unset, .unset]) (Sf := fun z => []) (dsf := fun z => [(a11, .inl (.int, [(.int p1), (.int p2), (.int p3)]))]) ?_ ?_
    · intro J
      refine oW.iload (pc' := 272) K at_270 rfl rfl ?_
      refine oW.if_eq (pc' := 287) (pc3 := 275) K at_272 (by decide) (by decide) rfl (fun c272 => ?_) (fun c272 => ?_)
      · exact J s9 (⟨oS_z (oR_z hr10 c272), Jvm.Free.Fl.Mag64.mono ms9 (by decide)⟩)
      · refine oW.dload (pc' := 277) K at_275 rfl rfl ?_
        refine oW.iload (pc' := 279) K at_277 rfl rfl ?_
        obtain ⟨v279, ev279⟩ : ∃ z : UInt64, z = FP.i2d k10 := ⟨_, rfl⟩
        have mv279 : oMag 1056 v279 := oMI2D ev279
        refine oW.i2d (pc' := 280) K at_279 ev279 rfl ?_
        refine oW.ldc2D (pc' := 283) K (hw _ (List.mem_of_getElem? (i := 17) rfl)) at_280 rfl ?_
        obtain ⟨v283, ev283⟩ : ∃ z : UInt64, z = FP.ddiv v279 (4613937818241073152 : UInt64) := ⟨_, rfl⟩
        have mv283 : oMag 1056 v283 := oMDiv mv279 (by unfold Big64; decide : Big64 1024 (4613937818241073152 : UInt64)) ev283 (by decide)
        refine oW.ddiv (pc' := 284) K at_283 ev283 (oMNN mv283 (by decide)) rfl ?_
        obtain ⟨v284, ev284⟩ : ∃ z : UInt64, z = FP.dadd s9 v283 := ⟨_, rfl⟩
        have mv284 : oMag 1063 v284 := oMAdd (A := 1061) ms9 (Jvm.Free.Fl.Mag64.mono mv283 (by decide)) ev284 (by decide)
        refine oW.dadd (pc' := 285) K at_284 ev284 (oMNN mv284 (by decide)) rfl ?_
        refine oW.dstore (Ls' := #[.val (.int p0), .val (.int p1), .val (.int p2), .val (.int p3), .val (.int p4), .val (.int p5), .val (.int (3 : Int32)), .val (.ref a11), .val (.int r8), .val (.int r9), .val (.int r10), .val (.int (0 : Int32)), .val (.int (0 : Int32)), .val (.int k8), .val (.int k9), .val (.int k10), .val (.int v217), .val (.int v232), .val (.double v284), .second, .unset, .unset, .unset, .unset, .unset]) (pc' := 287) K at_285 rfl rfl ?_
        exact J v284 (⟨oS_n ev279 ev283 ev284 (oR_n hr10 c272) rfl, mv284⟩)
    intro s10 hs10
    obtain ⟨gs10, ms10⟩ := hs10
    refine oW.iload (pc' := 289) K at_287 rfl rfl ?_
    refine oW.if_eq (pc' := 304) (pc3 := 292) K at_289 (by decide) (by decide) rfl (fun _ => ?_) (fun q => absurd q (by decide))
    refine oW.iload (pc' := 306) K at_304 rfl rfl ?_
    refine oW.if_eq (pc' := 321) (pc3 := 309) K at_306 (by decide) (by decide) rfl (fun _ => ?_) (fun q => absurd q (by decide))
    refine oW.join (F := fun z : UInt64 => z = oFin v232 s10 ∧ Jvm.Free.Fl.NoNaN64 z) (pcj := 336) (Lf := fun z => #[.val (.int p0), .val (.int p1), .val (.int p2), .val (.int p3), .val (.int p4), .val (.int p5), .val (.int (3 : Int32)), .val (.ref a11), .val (.int r8), .val (.int r9), .val (.int r10), .val (.int (0 : Int32)), .val (.int (0 : Int32)), .val (.int k8), .val (.int k9), .val (.int k10), .val (.int v217), .val (.int v232), .val (.double s10), .second, .unset, .unset, .unset, .unset, .unset]) (Sf := fun z => [(.double z)]) (dsf := fun z => [(a11, .inl (.int, [(.int p1), (.int p2), (.int p3)]))]) ?_ ?_
    · intro J
      refine oW.iload (pc' := 323) K at_321 rfl rfl ?_
      refine oW.if_le (pc' := 335) (pc3 := 326) K at_323 (by decide) (by decide) rfl (fun c323 => ?_) (fun c323 => ?_)
      · refine oW.dconst0 (pc' := 336) K at_335 rfl ?_
        exact J (0 : UInt64) (⟨oF_n c323, oMNN (by unfold oMag Jvm.Free.Fl.Mag64; decide : oMag 1 (0 : UInt64)) (by decide)⟩)
      · refine oW.dload (pc' := 328) K at_326 rfl rfl ?_
        refine oW.iload (pc' := 330) K at_328 rfl rfl ?_
        obtain ⟨v330, ev330⟩ : ∃ z : UInt64, z = FP.i2d v232 := ⟨_, rfl⟩
        have mv330 : oMag 1056 v330 := oMI2D ev330
        refine oW.i2d (pc' := 331) K at_330 ev330 rfl ?_
        obtain ⟨v331, ev331⟩ : ∃ z : UInt64, z = FP.ddiv s10 v330 := ⟨_, rfl⟩
        have mv331 : oMag 1064 v331 := oMDiv ms10 (oBigI ev330 c323) ev331 (by decide)
        refine oW.ddiv (pc' := 332) K at_331 ev331 (oMNN mv331 (by decide)) rfl ?_
        refine oW.goto (pc' := 336) K at_332 (by decide) (by decide) ?_
        exact J v331 (⟨oF_p ev330 ev331 c323, oMNN mv331 (by decide)⟩)
    intro ex hex
    obtain ⟨gex, nex⟩ := hex
    refine oW.dstore (Ls' := #[.val (.int p0), .val (.int p1), .val (.int p2), .val (.int p3), .val (.int p4), .val (.int p5), .val (.int (3 : Int32)), .val (.ref a11), .val (.int r8), .val (.int r9), .val (.int r10), .val (.int (0 : Int32)), .val (.int (0 : Int32)), .val (.int k8), .val (.int k9), .val (.int k10), .val (.int v217), .val (.int v232), .val (.double s10), .second, .val (.double ex), .second, .unset, .unset, .unset]) (pc' := 338) K at_336 rfl rfl ?_
    refine oW.new (fs := []) (cells' := 2) (slots' := 3) (dsf := fun z => [(a11, .inl (.int, [(.int p1), (.int p2), (.int p3)])), (z, .inr ("com/example/ordevo/ordevo/AveragePrecision", []))]) (pc' := 341) K (hw _ (List.mem_of_getElem? (i := 2) rfl)) (hw _ (List.mem_of_getElem? (i := 3) rfl)) (hw _ (List.mem_of_getElem? (i := 4) rfl)) (oLd_0 hw) at_338 (by decide) (by decide) rfl rfl (fun _ => rfl) rfl ?_
    intro a338 ha338
    refine oW.dup (pc' := 342) K at_341 rfl rfl ?_
    refine oW.callI (a := a338) (argsL := []) (S := [(.ref a338)]) (rm := ({ frames := 1, cells := 0, slots := 0, locals := 12 } : Room)) (W := 1) (cells' := 2) (slots' := 3) (pc' := 345) K rfl (hw _ (List.mem_of_getElem? (i := 5) rfl)) (hw _ (List.mem_of_getElem? (i := 6) rfl)) (hw _ (List.mem_of_getElem? (i := 4) rfl)) (hw _ (List.mem_of_getElem? (i := 7) rfl)) (by decide) (own_init hw a338 _) (lenOf pd_0 rfl) at_342 rfl rfl (Nat.le_of_eq rfl) (by decide) (by decide) (by decide) (by decide) rfl rfl rfl ?_
    rintro _ rfl
    refine oW.aload (pc' := 347) K at_345 rfl rfl rfl ?_
    refine oW.callV (a := a338) (argsL := [(.ref a11)]) (S := []) (rm := ({ frames := 0, cells := 0, slots := 0, locals := 0 } : Room)) (W := 0) (cells' := 2) (slots' := 3) (pc' := 350) K (hw _ (List.mem_of_getElem? (i := 11) rfl)) (hw _ (List.mem_of_getElem? (i := 12) rfl)) (hw _ (List.mem_of_getElem? (i := 14) rfl)) (hw _ (List.mem_of_getElem? (i := 13) rfl)) (hw _ (List.mem_of_getElem? (i := 15) rfl)) (hw _ (List.mem_of_getElem? (i := 4) rfl)) (by decide) (oNF (hw _ (List.mem_of_getElem? (i := 14) rfl))) (fun _ M => oMem.exa (i := 1) rfl M) (own_ev3 hw a338 a11 p1 p2 p3) (lenOf pd_1 rfl) at_347 rfl rfl (Nat.le_of_eq rfl) (by decide) (by decide) (by decide) (by decide) rfl rfl rfl ?_
    rintro _ _ ⟨got, rfl, ⟨ggot, ngot⟩, rfl⟩
    refine oW.dstore (Ls' := #[.val (.int p0), .val (.int p1), .val (.int p2), .val (.int p3), .val (.int p4), .val (.int p5), .val (.int (3 : Int32)), .val (.ref a11), .val (.int r8), .val (.int r9), .val (.int r10), .val (.int (0 : Int32)), .val (.int (0 : Int32)), .val (.int k8), .val (.int k9), .val (.int k10), .val (.int v217), .val (.int v232), .val (.double s10), .second, .val (.double ex), .second, .val (.double got), .second, .unset]) (pc' := 352) K at_350 rfl rfl ?_
    refine oW.iload (pc' := 354) K at_352 rfl rfl ?_
    refine oW.iconst (v := (1 : Int32)) (pc' := 355) K at_354 (by decide) rfl ?_
    refine oW.icmp_lt (pc' := 366) (pc3 := 358) K at_355 (by decide) (by decide) rfl (fun q => absurd q (by decide)) (fun _ => ?_)
    refine oW.aload (pc' := 360) K at_358 rfl rfl rfl ?_
    refine oW.iconst (v := (0 : Int32)) (pc' := 361) K at_360 (by decide) rfl ?_
    refine oW.iaload (i := 0) (k := 0) (pc' := 362) K at_361 rfl rfl (by decide) rfl rfl ?_
    refine oW.iloadN (pc' := 363) K at_362 rfl rfl ?_
    refine oW.icmp_ne (pc' := 428) (pc3 := 366) K at_363 (by decide) (by decide) rfl (fun q => absurd rfl q) (fun c363 => ?_)
    refine oW.iload (pc' := 368) K at_366 rfl rfl ?_
    refine oW.iconst (v := (2 : Int32)) (pc' := 369) K at_368 (by decide) rfl ?_
    refine oW.icmp_lt (pc' := 380) (pc3 := 372) K at_369 (by decide) (by decide) rfl (fun q => absurd q (by decide)) (fun _ => ?_)
    refine oW.aload (pc' := 374) K at_372 rfl rfl rfl ?_
    refine oW.iconst (v := (1 : Int32)) (pc' := 375) K at_374 (by decide) rfl ?_
    refine oW.iaload (i := 0) (k := 1) (pc' := 376) K at_375 rfl rfl (by decide) rfl rfl ?_
    refine oW.iloadN (pc' := 377) K at_376 rfl rfl ?_
    refine oW.icmp_ne (pc' := 428) (pc3 := 380) K at_377 (by decide) (by decide) rfl (fun q => absurd rfl q) (fun c377 => ?_)
    refine oW.iload (pc' := 382) K at_380 rfl rfl ?_
    refine oW.iconst (v := (3 : Int32)) (pc' := 383) K at_382 (by decide) rfl ?_
    refine oW.icmp_lt (pc' := 394) (pc3 := 386) K at_383 (by decide) (by decide) rfl (fun q => absurd q (by decide)) (fun _ => ?_)
    refine oW.aload (pc' := 388) K at_386 rfl rfl rfl ?_
    refine oW.iconst (v := (2 : Int32)) (pc' := 389) K at_388 (by decide) rfl ?_
    refine oW.iaload (i := 0) (k := 2) (pc' := 390) K at_389 rfl rfl (by decide) rfl rfl ?_
    refine oW.iloadN (pc' := 391) K at_390 rfl rfl ?_
    refine oW.icmp_ne (pc' := 428) (pc3 := 394) K at_391 (by decide) (by decide) rfl (fun q => absurd rfl q) (fun c391 => ?_)
    refine oW.iload (pc' := 396) K at_394 rfl rfl ?_
    refine oW.iconst (v := (4 : Int32)) (pc' := 397) K at_396 (by decide) rfl ?_
    refine oW.icmp_lt (pc' := 409) (pc3 := 400) K at_397 (by decide) (by decide) rfl (fun _ => ?_) (fun q => absurd q (by decide))
    refine oW.iload (pc' := 411) K at_409 rfl rfl ?_
    refine oW.iconst (v := (5 : Int32)) (pc' := 412) K at_411 (by decide) rfl ?_
    refine oW.icmp_lt (pc' := 424) (pc3 := 415) K at_412 (by decide) (by decide) rfl (fun _ => ?_) (fun q => absurd q (by decide))
    refine oW.iconst (v := (1 : Int32)) (pc' := 425) K at_424 (by decide) rfl ?_
    refine oW.goto (pc' := 429) K at_425 (by decide) (by decide) ?_
    refine oW.istore (Ls' := #[.val (.int p0), .val (.int p1), .val (.int p2), .val (.int p3), .val (.int p4), .val (.int p5), .val (.int (3 : Int32)), .val (.ref a11), .val (.int r8), .val (.int r9), .val (.int r10), .val (.int (0 : Int32)), .val (.int (0 : Int32)), .val (.int k8), .val (.int k9), .val (.int k10), .val (.int v217), .val (.int v232), .val (.double s10), .second, .val (.double ex), .second, .val (.double got), .second, .val (.int (1 : Int32))]) (pc' := 431) K at_429 rfl rfl ?_
    refine oW.dload (pc' := 433) K at_431 rfl rfl ?_
    refine oW.dload (pc' := 435) K at_433 rfl rfl ?_
    obtain ⟨v435, ev435⟩ : ∃ z : Int32, z = cmpValue (FP.dcmp got ex) .l := ⟨_, rfl⟩
    refine oW.dcmp (pc' := 436) K at_435 ev435 rfl ?_
    refine oW.if_ne (pc' := 448) (pc3 := 439) K at_436 (by decide) (by decide) rfl (fun q => absurd (oSame ev435 (by rw [ggot, gex]; subst_vars; simp only [Int32.add_zero]) ngot) q) (fun c436 => ?_)
    refine oW.iload (pc' := 441) K at_439 rfl rfl ?_
    refine oW.if_eq (pc' := 448) (pc3 := 444) K at_441 (by decide) (by decide) rfl (fun q => absurd q (by decide)) (fun _ => ?_)
    refine oW.iconst (v := (1 : Int32)) (pc' := 445) K at_444 (by decide) rfl ?_
    refine oW.goto (pc' := 449) K at_445 (by decide) (by decide) ?_
    exact oW.retB K rfl at_449 (by decide) (by decide) ⟨_, rfl, rfl⟩
  · subst hv6
    refine oW.iload (pc' := 11) K at_9 rfl rfl ?_
    refine oW.newarr (n := 4) (cells' := 1) (slots' := 4) (dsf := fun z => [(z, .inl (.int, [(.int (0 : Int32)), (.int (0 : Int32)), (.int (0 : Int32)), (.int (0 : Int32))]))]) (pc' := 13) K (hw _ (List.mem_of_getElem? (i := 1) rfl)) at_11 rfl (by decide) (by decide) (by decide) (by decide) rfl rfl (fun _ => rfl) rfl ?_
    intro a11 ha11
    refine oW.astore (Ls' := #[.val (.int p0), .val (.int p1), .val (.int p2), .val (.int p3), .val (.int p4), .val (.int p5), .val (.int (4 : Int32)), .val (.ref a11), .unset, .unset, .unset, .unset, .unset, .unset, .unset, .unset, .unset, .unset, .unset, .unset, .unset, .unset, .unset, .unset, .unset]) (pc' := 15) K at_13 rfl rfl rfl ?_
    refine oW.iload (pc' := 17) K at_15 rfl rfl ?_
    refine oW.if_le (pc' := 25) (pc3 := 20) K at_17 (by decide) (by decide) rfl (fun q => absurd q (by decide)) (fun _ => ?_)
    refine oW.aload (pc' := 22) K at_20 rfl rfl rfl ?_
    refine oW.iconst (v := (0 : Int32)) (pc' := 23) K at_22 (by decide) rfl ?_
    refine oW.iloadN (pc' := 24) K at_23 rfl rfl ?_
    refine oW.iastore (i := 0) (k := 0) (ds' := [(a11, .inl (.int, [(.int p1), (.int (0 : Int32)), (.int (0 : Int32)), (.int (0 : Int32))]))]) (pc' := 25) K at_24 rfl rfl (by decide) (Nat.lt_of_sub_eq_succ rfl) rfl rfl ?_
    refine oW.iload (pc' := 27) K at_25 rfl rfl ?_
    refine oW.iconst (v := (1 : Int32)) (pc' := 28) K at_27 (by decide) rfl ?_
    refine oW.icmp_le (pc' := 36) (pc3 := 31) K at_28 (by decide) (by decide) rfl (fun q => absurd q (by decide)) (fun _ => ?_)
    refine oW.aload (pc' := 33) K at_31 rfl rfl rfl ?_
    refine oW.iconst (v := (1 : Int32)) (pc' := 34) K at_33 (by decide) rfl ?_
    refine oW.iloadN (pc' := 35) K at_34 rfl rfl ?_
    refine oW.iastore (i := 0) (k := 1) (ds' := [(a11, .inl (.int, [(.int p1), (.int p2), (.int (0 : Int32)), (.int (0 : Int32))]))]) (pc' := 36) K at_35 rfl rfl (by decide) (Nat.lt_of_sub_eq_succ rfl) rfl rfl ?_
    refine oW.iload (pc' := 38) K at_36 rfl rfl ?_
    refine oW.iconst (v := (2 : Int32)) (pc' := 39) K at_38 (by decide) rfl ?_
    refine oW.icmp_le (pc' := 47) (pc3 := 42) K at_39 (by decide) (by decide) rfl (fun q => absurd q (by decide)) (fun _ => ?_)
    refine oW.aload (pc' := 44) K at_42 rfl rfl rfl ?_
    refine oW.iconst (v := (2 : Int32)) (pc' := 45) K at_44 (by decide) rfl ?_
    refine oW.iloadN (pc' := 46) K at_45 rfl rfl ?_
    refine oW.iastore (i := 0) (k := 2) (ds' := [(a11, .inl (.int, [(.int p1), (.int p2), (.int p3), (.int (0 : Int32))]))]) (pc' := 47) K at_46 rfl rfl (by decide) (Nat.lt_of_sub_eq_succ rfl) rfl rfl ?_
    refine oW.iload (pc' := 49) K at_47 rfl rfl ?_
    refine oW.iconst (v := (3 : Int32)) (pc' := 50) K at_49 (by decide) rfl ?_
    refine oW.icmp_le (pc' := 59) (pc3 := 53) K at_50 (by decide) (by decide) rfl (fun q => absurd q (by decide)) (fun _ => ?_)
    refine oW.aload (pc' := 55) K at_53 rfl rfl rfl ?_
    refine oW.iconst (v := (3 : Int32)) (pc' := 56) K at_55 (by decide) rfl ?_
    refine oW.iload (pc' := 58) K at_56 rfl rfl ?_
    refine oW.iastore (i := 0) (k := 3) (ds' := [(a11, .inl (.int, [(.int p1), (.int p2), (.int p3), (.int p4)]))]) (pc' := 59) K at_58 rfl rfl (by decide) (Nat.lt_of_sub_eq_succ rfl) rfl rfl ?_
    refine oW.iload (pc' := 61) K at_59 rfl rfl ?_
    refine oW.iconst (v := (4 : Int32)) (pc' := 62) K at_61 (by decide) rfl ?_
    refine oW.icmp_le (pc' := 71) (pc3 := 65) K at_62 (by decide) (by decide) rfl (fun _ => ?_) (fun q => absurd q (by decide))
    refine oW.iload (pc' := 73) K at_71 rfl rfl ?_
    refine oW.iconst (v := (1 : Int32)) (pc' := 74) K at_73 (by decide) rfl ?_
    refine oW.icmp_lt (pc' := 86) (pc3 := 77) K at_74 (by decide) (by decide) rfl (fun q => absurd q (by decide)) (fun _ => ?_)
    refine oW.join (F := fun z : Int32 => z = oR p1) (pcj := 87) (Lf := fun z => #[.val (.int p0), .val (.int p1), .val (.int p2), .val (.int p3), .val (.int p4), .val (.int p5), .val (.int (4 : Int32)), .val (.ref a11), .unset, .unset, .unset, .unset, .unset, .unset, .unset, .unset, .unset, .unset, .unset, .unset, .unset, .unset, .unset, .unset, .unset]) (Sf := fun z => [(.int z)]) (dsf := fun z => [(a11, .inl (.int, [(.int p1), (.int p2), (.int p3), (.int p4)]))]) ?_ ?_
    · intro J
      refine oW.iloadN (pc' := 78) K at_77 rfl rfl ?_
      refine oW.iconst (v := (1 : Int32)) (pc' := 79) K at_78 (by decide) rfl ?_
      refine oW.icmp_lt (pc' := 86) (pc3 := 82) K at_79 (by decide) (by decide) rfl (fun c79 => ?_) (fun c79 => ?_)
      · refine oW.iconst (v := (0 : Int32)) (pc' := 87) K at_86 (by decide) rfl ?_
        exact J (0 : Int32) (oR_0 c79)
      · refine oW.iconst (v := (1 : Int32)) (pc' := 83) K at_82 (by decide) rfl ?_
        refine oW.goto (pc' := 87) K at_83 (by decide) (by decide) ?_
        exact J (1 : Int32) (oR_1 c79)
    intro r8 hr8
    refine oW.istore (Ls' := #[.val (.int p0), .val (.int p1), .val (.int p2), .val (.int p3), .val (.int p4), .val (.int p5), .val (.int (4 : Int32)), .val (.ref a11), .val (.int r8), .unset, .unset, .unset, .unset, .unset, .unset, .unset, .unset, .unset, .unset, .unset, .unset, .unset, .unset, .unset, .unset]) (pc' := 89) K at_87 rfl rfl ?_
    refine oW.iload (pc' := 91) K at_89 rfl rfl ?_
    refine oW.iconst (v := (2 : Int32)) (pc' := 92) K at_91 (by decide) rfl ?_
    refine oW.icmp_lt (pc' := 104) (pc3 := 95) K at_92 (by decide) (by decide) rfl (fun q => absurd q (by decide)) (fun _ => ?_)
    refine oW.join (F := fun z : Int32 => z = oR p2) (pcj := 105) (Lf := fun z => #[.val (.int p0), .val (.int p1), .val (.int p2), .val (.int p3), .val (.int p4), .val (.int p5), .val (.int (4 : Int32)), .val (.ref a11), .val (.int r8), .unset, .unset, .unset, .unset, .unset, .unset, .unset, .unset, .unset, .unset, .unset, .unset, .unset, .unset, .unset, .unset]) (Sf := fun z => [(.int z)]) (dsf := fun z => [(a11, .inl (.int, [(.int p1), (.int p2), (.int p3), (.int p4)]))]) ?_ ?_
    · intro J
      refine oW.iloadN (pc' := 96) K at_95 rfl rfl ?_
      refine oW.iconst (v := (1 : Int32)) (pc' := 97) K at_96 (by decide) rfl ?_
      refine oW.icmp_lt (pc' := 104) (pc3 := 100) K at_97 (by decide) (by decide) rfl (fun c97 => ?_) (fun c97 => ?_)
      · refine oW.iconst (v := (0 : Int32)) (pc' := 105) K at_104 (by decide) rfl ?_
        exact J (0 : Int32) (oR_0 c97)
      · refine oW.iconst (v := (1 : Int32)) (pc' := 101) K at_100 (by decide) rfl ?_
        refine oW.goto (pc' := 105) K at_101 (by decide) (by decide) ?_
        exact J (1 : Int32) (oR_1 c97)
    intro r9 hr9
    refine oW.istore (Ls' := #[.val (.int p0), .val (.int p1), .val (.int p2), .val (.int p3), .val (.int p4), .val (.int p5), .val (.int (4 : Int32)), .val (.ref a11), .val (.int r8), .val (.int r9), .unset, .unset, .unset, .unset, .unset, .unset, .unset, .unset, .unset, .unset, .unset, .unset, .unset, .unset, .unset]) (pc' := 107) K at_105 rfl rfl ?_
    refine oW.iload (pc' := 109) K at_107 rfl rfl ?_
    refine oW.iconst (v := (3 : Int32)) (pc' := 110) K at_109 (by decide) rfl ?_
    refine oW.icmp_lt (pc' := 122) (pc3 := 113) K at_110 (by decide) (by decide) rfl (fun q => absurd q (by decide)) (fun _ => ?_)
    refine oW.join (F := fun z : Int32 => z = oR p3) (pcj := 123) (Lf := fun z => #[.val (.int p0), .val (.int p1), .val (.int p2), .val (.int p3), .val (.int p4), .val (.int p5), .val (.int (4 : Int32)), .val (.ref a11), .val (.int r8), .val (.int r9), .unset, .unset, .unset, .unset, .unset, .unset, .unset, .unset, .unset, .unset, .unset, .unset, .unset, .unset, .unset]) (Sf := fun z => [(.int z)]) (dsf := fun z => [(a11, .inl (.int, [(.int p1), (.int p2), (.int p3), (.int p4)]))]) ?_ ?_
    · intro J
      refine oW.iloadN (pc' := 114) K at_113 rfl rfl ?_
      refine oW.iconst (v := (1 : Int32)) (pc' := 115) K at_114 (by decide) rfl ?_
      refine oW.icmp_lt (pc' := 122) (pc3 := 118) K at_115 (by decide) (by decide) rfl (fun c115 => ?_) (fun c115 => ?_)
      · refine oW.iconst (v := (0 : Int32)) (pc' := 123) K at_122 (by decide) rfl ?_
        exact J (0 : Int32) (oR_0 c115)
      · refine oW.iconst (v := (1 : Int32)) (pc' := 119) K at_118 (by decide) rfl ?_
        refine oW.goto (pc' := 123) K at_119 (by decide) (by decide) ?_
        exact J (1 : Int32) (oR_1 c115)
    intro r10 hr10
    refine oW.istore (Ls' := #[.val (.int p0), .val (.int p1), .val (.int p2), .val (.int p3), .val (.int p4), .val (.int p5), .val (.int (4 : Int32)), .val (.ref a11), .val (.int r8), .val (.int r9), .val (.int r10), .unset, .unset, .unset, .unset, .unset, .unset, .unset, .unset, .unset, .unset, .unset, .unset, .unset, .unset]) (pc' := 125) K at_123 rfl rfl ?_
    refine oW.iload (pc' := 127) K at_125 rfl rfl ?_
    refine oW.iconst (v := (4 : Int32)) (pc' := 128) K at_127 (by decide) rfl ?_
    refine oW.icmp_lt (pc' := 141) (pc3 := 131) K at_128 (by decide) (by decide) rfl (fun q => absurd q (by decide)) (fun _ => ?_)
    refine oW.join (F := fun z : Int32 => z = oR p4) (pcj := 142) (Lf := fun z => #[.val (.int p0), .val (.int p1), .val (.int p2), .val (.int p3), .val (.int p4), .val (.int p5), .val (.int (4 : Int32)), .val (.ref a11), .val (.int r8), .val (.int r9), .val (.int r10), .unset, .unset, .unset, .unset, .unset, .unset, .unset, .unset, .unset, .unset, .unset, .unset, .unset, .unset]) (Sf := fun z => [(.int z)]) (dsf := fun z => [(a11, .inl (.int, [(.int p1), (.int p2), (.int p3), (.int p4)]))]) ?_ ?_
    · intro J
      refine oW.iload (pc' := 133) K at_131 rfl rfl ?_
      refine oW.iconst (v := (1 : Int32)) (pc' := 134) K at_133 (by decide) rfl ?_
      refine oW.icmp_lt (pc' := 141) (pc3 := 137) K at_134 (by decide) (by decide) rfl (fun c134 => ?_) (fun c134 => ?_)
      · refine oW.iconst (v := (0 : Int32)) (pc' := 142) K at_141 (by decide) rfl ?_
        exact J (0 : Int32) (oR_0 c134)
      · refine oW.iconst (v := (1 : Int32)) (pc' := 138) K at_137 (by decide) rfl ?_
        refine oW.goto (pc' := 142) K at_138 (by decide) (by decide) ?_
        exact J (1 : Int32) (oR_1 c134)
    intro r11 hr11
    refine oW.istore (Ls' := #[.val (.int p0), .val (.int p1), .val (.int p2), .val (.int p3), .val (.int p4), .val (.int p5), .val (.int (4 : Int32)), .val (.ref a11), .val (.int r8), .val (.int r9), .val (.int r10), .val (.int r11), .unset, .unset, .unset, .unset, .unset, .unset, .unset, .unset, .unset, .unset, .unset, .unset, .unset]) (pc' := 144) K at_142 rfl rfl ?_
    refine oW.iload (pc' := 146) K at_144 rfl rfl ?_
    refine oW.iconst (v := (5 : Int32)) (pc' := 147) K at_146 (by decide) rfl ?_
    refine oW.icmp_lt (pc' := 160) (pc3 := 150) K at_147 (by decide) (by decide) rfl (fun _ => ?_) (fun q => absurd q (by decide))
    refine oW.iconst (v := (0 : Int32)) (pc' := 161) K at_160 (by decide) rfl ?_
    refine oW.istore (Ls' := #[.val (.int p0), .val (.int p1), .val (.int p2), .val (.int p3), .val (.int p4), .val (.int p5), .val (.int (4 : Int32)), .val (.ref a11), .val (.int r8), .val (.int r9), .val (.int r10), .val (.int r11), .val (.int (0 : Int32)), .unset, .unset, .unset, .unset, .unset, .unset, .unset, .unset, .unset, .unset, .unset, .unset]) (pc' := 163) K at_161 rfl rfl ?_
    refine oW.join (F := fun z : Int32 => z = oC (0 : Int32) p1) (pcj := 173) (Lf := fun z => #[.val (.int p0), .val (.int p1), .val (.int p2), .val (.int p3), .val (.int p4), .val (.int p5), .val (.int (4 : Int32)), .val (.ref a11), .val (.int r8), .val (.int r9), .val (.int r10), .val (.int r11), .val (.int (0 : Int32)), .unset, .unset, .unset, .unset, .unset, .unset, .unset, .unset, .unset, .unset, .unset, .unset]) (Sf := fun z => [(.int z)]) (dsf := fun z => [(a11, .inl (.int, [(.int p1), (.int p2), (.int p3), (.int p4)]))]) ?_ ?_
    · intro J
      refine oW.iload (pc' := 165) K at_163 rfl rfl ?_
      refine oW.if_eq (pc' := 172) (pc3 := 168) K at_165 (by decide) (by decide) rfl (fun c165 => ?_) (fun c165 => ?_)
      · refine oW.iconst (v := (0 : Int32)) (pc' := 173) K at_172 (by decide) rfl ?_
        exact J (0 : Int32) (oC_z rfl (oR_z hr8 c165))
      · refine oW.iconst (v := (1 : Int32)) (pc' := 169) K at_168 (by decide) rfl ?_
        refine oW.goto (pc' := 173) K at_169 (by decide) (by decide) ?_
        exact J (1 : Int32) (oC_n (by decide) (oR_n hr8 c165))
    intro k8 hk8
    refine oW.istore (Ls' := #[.val (.int p0), .val (.int p1), .val (.int p2), .val (.int p3), .val (.int p4), .val (.int p5), .val (.int (4 : Int32)), .val (.ref a11), .val (.int r8), .val (.int r9), .val (.int r10), .val (.int r11), .val (.int (0 : Int32)), .val (.int k8), .unset, .unset, .unset, .unset, .unset, .unset, .unset, .unset, .unset, .unset, .unset]) (pc' := 175) K at_173 rfl rfl ?_
    refine oW.join (F := fun z : Int32 => z = oC k8 p2) (pcj := 188) (Lf := fun z => #[.val (.int p0), .val (.int p1), .val (.int p2), .val (.int p3), .val (.int p4), .val (.int p5), .val (.int (4 : Int32)), .val (.ref a11), .val (.int r8), .val (.int r9), .val (.int r10), .val (.int r11), .val (.int (0 : Int32)), .val (.int k8), .unset, .unset, .unset, .unset, .unset, .unset, .unset, .unset, .unset, .unset, .unset]) (Sf := fun z => [(.int z)]) (dsf := fun z => [(a11, .inl (.int, [(.int p1), (.int p2), (.int p3), (.int p4)]))]) ?_ ?_
    · intro J
      refine oW.iload (pc' := 177) K at_175 rfl rfl ?_
      refine oW.iload (pc' := 179) K at_177 rfl rfl ?_
      refine oW.if_eq (pc' := 186) (pc3 := 182) K at_179 (by decide) (by decide) rfl (fun c179 => ?_) (fun c179 => ?_)
      · refine oW.iconst (v := (0 : Int32)) (pc' := 187) K at_186 (by decide) rfl ?_
        obtain ⟨v187, ev187⟩ : ∃ z : Int32, z = k8 + (0 : Int32) := ⟨_, rfl⟩
        refine oW.iadd (pc' := 188) K at_187 ev187 rfl ?_
        exact J v187 (oC_z (ev187.trans (Int32.add_zero _)) (oR_z hr9 c179))
      · refine oW.iconst (v := (1 : Int32)) (pc' := 183) K at_182 (by decide) rfl ?_
        refine oW.goto (pc' := 187) K at_183 (by decide) (by decide) ?_
        obtain ⟨v187, ev187⟩ : ∃ z : Int32, z = k8 + (1 : Int32) := ⟨_, rfl⟩
        refine oW.iadd (pc' := 188) K at_187 ev187 rfl ?_
        exact J v187 (oC_n ev187 (oR_n hr9 c179))
    intro k9 hk9
    refine oW.istore (Ls' := #[.val (.int p0), .val (.int p1), .val (.int p2), .val (.int p3), .val (.int p4), .val (.int p5), .val (.int (4 : Int32)), .val (.ref a11), .val (.int r8), .val (.int r9), .val (.int r10), .val (.int r11), .val (.int (0 : Int32)), .val (.int k8), .val (.int k9), .unset, .unset, .unset, .unset, .unset, .unset, .unset, .unset, .unset, .unset]) (pc' := 190) K at_188 rfl rfl ?_
    refine oW.join (F := fun z : Int32 => z = oC k9 p3) (pcj := 203) (Lf := fun z => #[.val (.int p0), .val (.int p1), .val (.int p2), .val (.int p3), .val (.int p4), .val (.int p5), .val (.int (4 : Int32)), .val (.ref a11), .val (.int r8), .val (.int r9), .val (.int r10), .val (.int r11), .val (.int (0 : Int32)), .val (.int k8), .val (.int k9), .unset, .unset, .unset, .unset, .unset, .unset, .unset, .unset, .unset, .unset]) (Sf := fun z => [(.int z)]) (dsf := fun z => [(a11, .inl (.int, [(.int p1), (.int p2), (.int p3), (.int p4)]))]) ?_ ?_
    · intro J
      refine oW.iload (pc' := 192) K at_190 rfl rfl ?_
      refine oW.iload (pc' := 194) K at_192 rfl rfl ?_
      refine oW.if_eq (pc' := 201) (pc3 := 197) K at_194 (by decide) (by decide) rfl (fun c194 => ?_) (fun c194 => ?_)
      · refine oW.iconst (v := (0 : Int32)) (pc' := 202) K at_201 (by decide) rfl ?_
        obtain ⟨v202, ev202⟩ : ∃ z : Int32, z = k9 + (0 : Int32) := ⟨_, rfl⟩
        refine oW.iadd (pc' := 203) K at_202 ev202 rfl ?_
        exact J v202 (oC_z (ev202.trans (Int32.add_zero _)) (oR_z hr10 c194))
      · refine oW.iconst (v := (1 : Int32)) (pc' := 198) K at_197 (by decide) rfl ?_
        refine oW.goto (pc' := 202) K at_198 (by decide) (by decide) ?_
        obtain ⟨v202, ev202⟩ : ∃ z : Int32, z = k9 + (1 : Int32) := ⟨_, rfl⟩
        refine oW.iadd (pc' := 203) K at_202 ev202 rfl ?_
        exact J v202 (oC_n ev202 (oR_n hr10 c194))
    intro k10 hk10
    refine oW.istore (Ls' := #[.val (.int p0), .val (.int p1), .val (.int p2), .val (.int p3), .val (.int p4), .val (.int p5), .val (.int (4 : Int32)), .val (.ref a11), .val (.int r8), .val (.int r9), .val (.int r10), .val (.int r11), .val (.int (0 : Int32)), .val (.int k8), .val (.int k9), .val (.int k10), .unset, .unset, .unset, .unset, .unset, .unset, .unset, .unset, .unset]) (pc' := 205) K at_203 rfl rfl ?_
    refine oW.join (F := fun z : Int32 => z = oC k10 p4) (pcj := 218) (Lf := fun z => #[.val (.int p0), .val (.int p1), .val (.int p2), .val (.int p3), .val (.int p4), .val (.int p5), .val (.int (4 : Int32)), .val (.ref a11), .val (.int r8), .val (.int r9), .val (.int r10), .val (.int r11), .val (.int (0 : Int32)), .val (.int k8), .val (.int k9), .val (.int k10), .unset, .unset, .unset, .unset, .unset, .unset, .unset, .unset, .unset]) (Sf := fun z => [(.int z)]) (dsf := fun z => [(a11, .inl (.int, [(.int p1), (.int p2), (.int p3), (.int p4)]))]) ?_ ?_
    · intro J
      refine oW.iload (pc' := 207) K at_205 rfl rfl ?_
      refine oW.iload (pc' := 209) K at_207 rfl rfl ?_
      refine oW.if_eq (pc' := 216) (pc3 := 212) K at_209 (by decide) (by decide) rfl (fun c209 => ?_) (fun c209 => ?_)
      · refine oW.iconst (v := (0 : Int32)) (pc' := 217) K at_216 (by decide) rfl ?_
        obtain ⟨v217, ev217⟩ : ∃ z : Int32, z = k10 + (0 : Int32) := ⟨_, rfl⟩
        refine oW.iadd (pc' := 218) K at_217 ev217 rfl ?_
        exact J v217 (oC_z (ev217.trans (Int32.add_zero _)) (oR_z hr11 c209))
      · refine oW.iconst (v := (1 : Int32)) (pc' := 213) K at_212 (by decide) rfl ?_
        refine oW.goto (pc' := 217) K at_213 (by decide) (by decide) ?_
        obtain ⟨v217, ev217⟩ : ∃ z : Int32, z = k10 + (1 : Int32) := ⟨_, rfl⟩
        refine oW.iadd (pc' := 218) K at_217 ev217 rfl ?_
        exact J v217 (oC_n ev217 (oR_n hr11 c209))
    intro k11 hk11
    refine oW.istore (Ls' := #[.val (.int p0), .val (.int p1), .val (.int p2), .val (.int p3), .val (.int p4), .val (.int p5), .val (.int (4 : Int32)), .val (.ref a11), .val (.int r8), .val (.int r9), .val (.int r10), .val (.int r11), .val (.int (0 : Int32)), .val (.int k8), .val (.int k9), .val (.int k10), .val (.int k11), .unset, .unset, .unset, .unset, .unset, .unset, .unset, .unset]) (pc' := 220) K at_218 rfl rfl ?_
    refine oW.iload (pc' := 222) K at_220 rfl rfl ?_
    refine oW.iload (pc' := 224) K at_222 rfl rfl ?_
    refine oW.if_eq (pc' := 231) (pc3 := 227) K at_224 (by decide) (by decide) rfl (fun _ => ?_) (fun q => absurd q (by decide))
    refine oW.iconst (v := (0 : Int32)) (pc' := 232) K at_231 (by decide) rfl ?_
    obtain ⟨v232, ev232⟩ : ∃ z : Int32, z = k11 + (0 : Int32) := ⟨_, rfl⟩
    refine oW.iadd (pc' := 233) K at_232 ev232 rfl ?_
    refine oW.istore (Ls' := #[.val (.int p0), .val (.int p1), .val (.int p2), .val (.int p3), .val (.int p4), .val (.int p5), .val (.int (4 : Int32)), .val (.ref a11), .val (.int r8), .val (.int r9), .val (.int r10), .val (.int r11), .val (.int (0 : Int32)), .val (.int k8), .val (.int k9), .val (.int k10), .val (.int k11), .val (.int v232), .unset, .unset, .unset, .unset, .unset, .unset, .unset]) (pc' := 235) K at_233 rfl rfl ?_
    refine oW.dconst0 (pc' := 236) K at_235 rfl ?_
    refine oW.dstore (Ls' := #[.val (.int p0), .val (.int p1), .val (.int p2), .val (.int p3), .val (.int p4), .val (.int p5), .val (.int (4 : Int32)), .val (.ref a11), .val (.int r8), .val (.int r9), .val (.int r10), .val (.int r11), .val (.int (0 : Int32)), .val (.int k8), .val (.int k9), .val (.int k10), .val (.int k11), .val (.int v232), .val (.double (0 : UInt64)), .second, .unset, .unset, .unset, .unset, .unset]) (pc' := 238) K at_236 rfl rfl ?_
    refine oW.join (F := fun z : UInt64 => z = oS (0 : UInt64) k8 (4607182418800017408 : UInt64) p1 ∧ oMag 1059 z) (pcj := 253) (Lf := fun z => #[.val (.int p0), .val (.int p1), .val (.int p2), .val (.int p3), .val (.int p4), .val (.int p5), .val (.int (4 : Int32)), .val (.ref a11), .val (.int r8), .val (.int r9), .val (.int r10), .val (.int r11), .val (.int (0 : Int32)), .val (.int k8), .val (.int k9), .val (.int k10), .val (.int k11), .val (.int v232), .val (.double z), .second, .unset, .unset, .unset, .unset, .unset]) (Sf := fun z => []) (dsf := fun z => [(a11, .inl (.int, [(.int p1), (.int p2), (.int p3), (.int p4)]))]) ?_ ?_
    · intro J
      refine oW.iload (pc' := 240) K at_238 rfl rfl ?_
      refine oW.if_eq (pc' := 253) (pc3 := 243) K at_240 (by decide) (by decide) rfl (fun c240 => ?_) (fun c240 => ?_)
      · exact J (0 : UInt64) (⟨oS_z (oR_z hr8 c240), Jvm.Free.Fl.Mag64.mono (by unfold oMag Jvm.Free.Fl.Mag64; decide : oMag 1 (0 : UInt64)) (by decide)⟩)
      · refine oW.dload (pc' := 245) K at_243 rfl rfl ?_
        refine oW.iload (pc' := 247) K at_245 rfl rfl ?_
        obtain ⟨v247, ev247⟩ : ∃ z : UInt64, z = FP.i2d k8 := ⟨_, rfl⟩
        have mv247 : oMag 1056 v247 := oMI2D ev247
        refine oW.i2d (pc' := 248) K at_247 ev247 rfl ?_
        refine oW.dconst1 (pc' := 249) K at_248 rfl ?_
        obtain ⟨v249, ev249⟩ : ∃ z : UInt64, z = FP.ddiv v247 (4607182418800017408 : UInt64) := ⟨_, rfl⟩
        have mv249 : oMag 1057 v249 := oMDiv mv247 (by unfold Big64; decide : Big64 1023 (4607182418800017408 : UInt64)) ev249 (by decide)
        refine oW.ddiv (pc' := 250) K at_249 ev249 (oMNN mv249 (by decide)) rfl ?_
        obtain ⟨v250, ev250⟩ : ∃ z : UInt64, z = FP.dadd (0 : UInt64) v249 := ⟨_, rfl⟩
        have mv250 : oMag 1059 v250 := oMAdd (A := 1057) (Jvm.Free.Fl.Mag64.mono (by unfold oMag Jvm.Free.Fl.Mag64; decide : oMag 1 (0 : UInt64)) (by decide)) mv249 ev250 (by decide)
        refine oW.dadd (pc' := 251) K at_250 ev250 (oMNN mv250 (by decide)) rfl ?_
        refine oW.dstore (Ls' := #[.val (.int p0), .val (.int p1), .val (.int p2), .val (.int p3), .val (.int p4), .val (.int p5), .val (.int (4 : Int32)), .val (.ref a11), .val (.int r8), .val (.int r9), .val (.int r10), .val (.int r11), .val (.int (0 : Int32)), .val (.int k8), .val (.int k9), .val (.int k10), .val (.int k11), .val (.int v232), .val (.double v250), .second, .unset, .unset, .unset, .unset, .unset]) (pc' := 253) K at_251 rfl rfl ?_
        exact J v250 (⟨oS_n ev247 ev249 ev250 (oR_n hr8 c240) rfl, mv250⟩)
    intro s8 hs8
    obtain ⟨gs8, ms8⟩ := hs8
    refine oW.join (F := fun z : UInt64 => z = oS s8 k9 (4611686018427387904 : UInt64) p2 ∧ oMag 1061 z) (pcj := 270) (Lf := fun z => #[.val (.int p0), .val (.int p1), .val (.int p2), .val (.int p3), .val (.int p4), .val (.int p5), .val (.int (4 : Int32)), .val (.ref a11), .val (.int r8), .val (.int r9), .val (.int r10), .val (.int r11), .val (.int (0 : Int32)), .val (.int k8), .val (.int k9), .val (.int k10), .val (.int k11), .val (.int v232), .val (.double z), .second, .unset, .unset, .unset, .unset, .unset]) (Sf := fun z => []) (dsf := fun z => [(a11, .inl (.int, [(.int p1), (.int p2), (.int p3), (.int p4)]))]) ?_ ?_
    · intro J
      refine oW.iload (pc' := 255) K at_253 rfl rfl ?_
      refine oW.if_eq (pc' := 270) (pc3 := 258) K at_255 (by decide) (by decide) rfl (fun c255 => ?_) (fun c255 => ?_)
      · exact J s8 (⟨oS_z (oR_z hr9 c255), Jvm.Free.Fl.Mag64.mono ms8 (by decide)⟩)
      · refine oW.dload (pc' := 260) K at_258 rfl rfl ?_
        refine oW.iload (pc' := 262) K at_260 rfl rfl ?_
        obtain ⟨v262, ev262⟩ : ∃ z : UInt64, z = FP.i2d k9 := ⟨_, rfl⟩
        have mv262 : oMag 1056 v262 := oMI2D ev262
        refine oW.i2d (pc' := 263) K at_262 ev262 rfl ?_
        refine oW.ldc2D (pc' := 266) K (hw _ (List.mem_of_getElem? (i := 16) rfl)) at_263 rfl ?_
        obtain ⟨v266, ev266⟩ : ∃ z : UInt64, z = FP.ddiv v262 (4611686018427387904 : UInt64) := ⟨_, rfl⟩
        have mv266 : oMag 1056 v266 := oMDiv mv262 (by unfold Big64; decide : Big64 1024 (4611686018427387904 : UInt64)) ev266 (by decide)
        refine oW.ddiv (pc' := 267) K at_266 ev266 (oMNN mv266 (by decide)) rfl ?_
        obtain ⟨v267, ev267⟩ : ∃ z : UInt64, z = FP.dadd s8 v266 := ⟨_, rfl⟩
        have mv267 : oMag 1061 v267 := oMAdd (A := 1059) ms8 (Jvm.Free.Fl.Mag64.mono mv266 (by decide)) ev267 (by decide)
        refine oW.dadd (pc' := 268) K at_267 ev267 (oMNN mv267 (by decide)) rfl ?_
        refine oW.dstore (Ls' := #[.val (.int p0), .val (.int p1), .val (.int p2), .val (.int p3), .val (.int p4), .val (.int p5), .val (.int (4 : Int32)), .val (.ref a11), .val (.int r8), .val (.int r9), .val (.int r10), .val (.int r11), .val (.int (0 : Int32)), .val (.int k8), .val (.int k9), .val (.int k10), .val (.int k11), .val (.int v232), .val (.double v267), .second, .unset, .unset, .unset, .unset, .unset]) (pc' := 270) K at_268 rfl rfl ?_
        exact J v267 (⟨oS_n ev262 ev266 ev267 (oR_n hr9 c255) rfl, mv267⟩)
    intro s9 hs9
    obtain ⟨gs9, ms9⟩ := hs9
    refine oW.join (F := fun z : UInt64 => z = oS s9 k10 (4613937818241073152 : UInt64) p3 ∧ oMag 1063 z) (pcj := 287) (Lf := fun z => #[.val (.int p0), .val (.int p1), .val (.int p2), .val (.int p3), .val (.int p4), .val (.int p5), .val (.int (4 : Int32)), .val (.ref a11), .val (.int r8), .val (.int r9), .val (.int r10), .val (.int r11), .val (.int (0 : Int32)), .val (.int k8), .val (.int k9), .val (.int k10), .val (.int k11), .val (.int v232), .val (.double z), .second, .unset, .unset, .unset, .unset, .unset]) (Sf := fun z => []) (dsf := fun z => [(a11, .inl (.int, [(.int p1), (.int p2), (.int p3), (.int p4)]))]) ?_ ?_
    · intro J
      refine oW.iload (pc' := 272) K at_270 rfl rfl ?_
      refine oW.if_eq (pc' := 287) (pc3 := 275) K at_272 (by decide) (by decide) rfl (fun c272 => ?_) (fun c272 => ?_)
      · exact J s9 (⟨oS_z (oR_z hr10 c272), Jvm.Free.Fl.Mag64.mono ms9 (by decide)⟩)
      · refine oW.dload (pc' := 277) K at_275 rfl rfl ?_
        refine oW.iload (pc' := 279) K at_277 rfl rfl ?_
        obtain ⟨v279, ev279⟩ : ∃ z : UInt64, z = FP.i2d k10 := ⟨_, rfl⟩
        have mv279 : oMag 1056 v279 := oMI2D ev279
        refine oW.i2d (pc' := 280) K at_279 ev279 rfl ?_
        refine oW.ldc2D (pc' := 283) K (hw _ (List.mem_of_getElem? (i := 17) rfl)) at_280 rfl ?_
        obtain ⟨v283, ev283⟩ : ∃ z : UInt64, z = FP.ddiv v279 (4613937818241073152 : UInt64) := ⟨_, rfl⟩
        have mv283 : oMag 1056 v283 := oMDiv mv279 (by unfold Big64; decide : Big64 1024 (4613937818241073152 : UInt64)) ev283 (by decide)
        refine oW.ddiv (pc' := 284) K at_283 ev283 (oMNN mv283 (by decide)) rfl ?_
        obtain ⟨v284, ev284⟩ : ∃ z : UInt64, z = FP.dadd s9 v283 := ⟨_, rfl⟩
        have mv284 : oMag 1063 v284 := oMAdd (A := 1061) ms9 (Jvm.Free.Fl.Mag64.mono mv283 (by decide)) ev284 (by decide)
        refine oW.dadd (pc' := 285) K at_284 ev284 (oMNN mv284 (by decide)) rfl ?_
        refine oW.dstore (Ls' := #[.val (.int p0), .val (.int p1), .val (.int p2), .val (.int p3), .val (.int p4), .val (.int p5), .val (.int (4 : Int32)), .val (.ref a11), .val (.int r8), .val (.int r9), .val (.int r10), .val (.int r11), .val (.int (0 : Int32)), .val (.int k8), .val (.int k9), .val (.int k10), .val (.int k11), .val (.int v232), .val (.double v284), .second, .unset, .unset, .unset, .unset, .unset]) (pc' := 287) K at_285 rfl rfl ?_
        exact J v284 (⟨oS_n ev279 ev283 ev284 (oR_n hr10 c272) rfl, mv284⟩)
    intro s10 hs10
    obtain ⟨gs10, ms10⟩ := hs10
    refine oW.join (F := fun z : UInt64 => z = oS s10 k11 (4616189618054758400 : UInt64) p4 ∧ oMag 1065 z) (pcj := 304) (Lf := fun z => #[.val (.int p0), .val (.int p1), .val (.int p2), .val (.int p3), .val (.int p4), .val (.int p5), .val (.int (4 : Int32)), .val (.ref a11), .val (.int r8), .val (.int r9), .val (.int r10), .val (.int r11), .val (.int (0 : Int32)), .val (.int k8), .val (.int k9), .val (.int k10), .val (.int k11), .val (.int v232), .val (.double z), .second, .unset, .unset, .unset, .unset, .unset]) (Sf := fun z => []) (dsf := fun z => [(a11, .inl (.int, [(.int p1), (.int p2), (.int p3), (.int p4)]))]) ?_ ?_
    · intro J
      refine oW.iload (pc' := 289) K at_287 rfl rfl ?_
      refine oW.if_eq (pc' := 304) (pc3 := 292) K at_289 (by decide) (by decide) rfl (fun c289 => ?_) (fun c289 => ?_)
      · exact J s10 (⟨oS_z (oR_z hr11 c289), Jvm.Free.Fl.Mag64.mono ms10 (by decide)⟩)
      · refine oW.dload (pc' := 294) K at_292 rfl rfl ?_
        refine oW.iload (pc' := 296) K at_294 rfl rfl ?_
        obtain ⟨v296, ev296⟩ : ∃ z : UInt64, z = FP.i2d k11 := ⟨_, rfl⟩
        have mv296 : oMag 1056 v296 := oMI2D ev296
        refine oW.i2d (pc' := 297) K at_296 ev296 rfl ?_
        refine oW.ldc2D (pc' := 300) K (hw _ (List.mem_of_getElem? (i := 18) rfl)) at_297 rfl ?_
        obtain ⟨v300, ev300⟩ : ∃ z : UInt64, z = FP.ddiv v296 (4616189618054758400 : UInt64) := ⟨_, rfl⟩
        have mv300 : oMag 1055 v300 := oMDiv mv296 (by unfold Big64; decide : Big64 1025 (4616189618054758400 : UInt64)) ev300 (by decide)
        refine oW.ddiv (pc' := 301) K at_300 ev300 (oMNN mv300 (by decide)) rfl ?_
        obtain ⟨v301, ev301⟩ : ∃ z : UInt64, z = FP.dadd s10 v300 := ⟨_, rfl⟩
        have mv301 : oMag 1065 v301 := oMAdd (A := 1063) ms10 (Jvm.Free.Fl.Mag64.mono mv300 (by decide)) ev301 (by decide)
        refine oW.dadd (pc' := 302) K at_301 ev301 (oMNN mv301 (by decide)) rfl ?_
        refine oW.dstore (Ls' := #[.val (.int p0), .val (.int p1), .val (.int p2), .val (.int p3), .val (.int p4), .val (.int p5), .val (.int (4 : Int32)), .val (.ref a11), .val (.int r8), .val (.int r9), .val (.int r10), .val (.int r11), .val (.int (0 : Int32)), .val (.int k8), .val (.int k9), .val (.int k10), .val (.int k11), .val (.int v232), .val (.double v301), .second, .unset, .unset, .unset, .unset, .unset]) (pc' := 304) K at_302 rfl rfl ?_
        exact J v301 (⟨oS_n ev296 ev300 ev301 (oR_n hr11 c289) rfl, mv301⟩)
    intro s11 hs11
    obtain ⟨gs11, ms11⟩ := hs11
    refine oW.iload (pc' := 306) K at_304 rfl rfl ?_
    refine oW.if_eq (pc' := 321) (pc3 := 309) K at_306 (by decide) (by decide) rfl (fun _ => ?_) (fun q => absurd q (by decide))
    refine oW.join (F := fun z : UInt64 => z = oFin v232 s11 ∧ Jvm.Free.Fl.NoNaN64 z) (pcj := 336) (Lf := fun z => #[.val (.int p0), .val (.int p1), .val (.int p2), .val (.int p3), .val (.int p4), .val (.int p5), .val (.int (4 : Int32)), .val (.ref a11), .val (.int r8), .val (.int r9), .val (.int r10), .val (.int r11), .val (.int (0 : Int32)), .val (.int k8), .val (.int k9), .val (.int k10), .val (.int k11), .val (.int v232), .val (.double s11), .second, .unset, .unset, .unset, .unset, .unset]) (Sf := fun z => [(.double z)]) (dsf := fun z => [(a11, .inl (.int, [(.int p1), (.int p2), (.int p3), (.int p4)]))]) ?_ ?_
    · intro J
      refine oW.iload (pc' := 323) K at_321 rfl rfl ?_
      refine oW.if_le (pc' := 335) (pc3 := 326) K at_323 (by decide) (by decide) rfl (fun c323 => ?_) (fun c323 => ?_)
      · refine oW.dconst0 (pc' := 336) K at_335 rfl ?_
        exact J (0 : UInt64) (⟨oF_n c323, oMNN (by unfold oMag Jvm.Free.Fl.Mag64; decide : oMag 1 (0 : UInt64)) (by decide)⟩)
      · refine oW.dload (pc' := 328) K at_326 rfl rfl ?_
        refine oW.iload (pc' := 330) K at_328 rfl rfl ?_
        obtain ⟨v330, ev330⟩ : ∃ z : UInt64, z = FP.i2d v232 := ⟨_, rfl⟩
        have mv330 : oMag 1056 v330 := oMI2D ev330
        refine oW.i2d (pc' := 331) K at_330 ev330 rfl ?_
        obtain ⟨v331, ev331⟩ : ∃ z : UInt64, z = FP.ddiv s11 v330 := ⟨_, rfl⟩
        have mv331 : oMag 1066 v331 := oMDiv ms11 (oBigI ev330 c323) ev331 (by decide)
        refine oW.ddiv (pc' := 332) K at_331 ev331 (oMNN mv331 (by decide)) rfl ?_
        refine oW.goto (pc' := 336) K at_332 (by decide) (by decide) ?_
        exact J v331 (⟨oF_p ev330 ev331 c323, oMNN mv331 (by decide)⟩)
    intro ex hex
    obtain ⟨gex, nex⟩ := hex
    refine oW.dstore (Ls' := #[.val (.int p0), .val (.int p1), .val (.int p2), .val (.int p3), .val (.int p4), .val (.int p5), .val (.int (4 : Int32)), .val (.ref a11), .val (.int r8), .val (.int r9), .val (.int r10), .val (.int r11), .val (.int (0 : Int32)), .val (.int k8), .val (.int k9), .val (.int k10), .val (.int k11), .val (.int v232), .val (.double s11), .second, .val (.double ex), .second, .unset, .unset, .unset]) (pc' := 338) K at_336 rfl rfl ?_
    refine oW.new (fs := []) (cells' := 2) (slots' := 4) (dsf := fun z => [(a11, .inl (.int, [(.int p1), (.int p2), (.int p3), (.int p4)])), (z, .inr ("com/example/ordevo/ordevo/AveragePrecision", []))]) (pc' := 341) K (hw _ (List.mem_of_getElem? (i := 2) rfl)) (hw _ (List.mem_of_getElem? (i := 3) rfl)) (hw _ (List.mem_of_getElem? (i := 4) rfl)) (oLd_0 hw) at_338 (by decide) (by decide) rfl rfl (fun _ => rfl) rfl ?_
    intro a338 ha338
    refine oW.dup (pc' := 342) K at_341 rfl rfl ?_
    refine oW.callI (a := a338) (argsL := []) (S := [(.ref a338)]) (rm := ({ frames := 1, cells := 0, slots := 0, locals := 12 } : Room)) (W := 1) (cells' := 2) (slots' := 4) (pc' := 345) K rfl (hw _ (List.mem_of_getElem? (i := 5) rfl)) (hw _ (List.mem_of_getElem? (i := 6) rfl)) (hw _ (List.mem_of_getElem? (i := 4) rfl)) (hw _ (List.mem_of_getElem? (i := 7) rfl)) (by decide) (own_init hw a338 _) (lenOf pd_0 rfl) at_342 rfl rfl (Nat.le_of_eq rfl) (by decide) (by decide) (by decide) (by decide) rfl rfl rfl ?_
    rintro _ rfl
    refine oW.aload (pc' := 347) K at_345 rfl rfl rfl ?_
    refine oW.callV (a := a338) (argsL := [(.ref a11)]) (S := []) (rm := ({ frames := 0, cells := 0, slots := 0, locals := 0 } : Room)) (W := 0) (cells' := 2) (slots' := 4) (pc' := 350) K (hw _ (List.mem_of_getElem? (i := 11) rfl)) (hw _ (List.mem_of_getElem? (i := 12) rfl)) (hw _ (List.mem_of_getElem? (i := 14) rfl)) (hw _ (List.mem_of_getElem? (i := 13) rfl)) (hw _ (List.mem_of_getElem? (i := 15) rfl)) (hw _ (List.mem_of_getElem? (i := 4) rfl)) (by decide) (oNF (hw _ (List.mem_of_getElem? (i := 14) rfl))) (fun _ M => oMem.exa (i := 1) rfl M) (own_ev4 hw a338 a11 p1 p2 p3 p4) (lenOf pd_1 rfl) at_347 rfl rfl (Nat.le_of_eq rfl) (by decide) (by decide) (by decide) (by decide) rfl rfl rfl ?_
    rintro _ _ ⟨got, rfl, ⟨ggot, ngot⟩, rfl⟩
    refine oW.dstore (Ls' := #[.val (.int p0), .val (.int p1), .val (.int p2), .val (.int p3), .val (.int p4), .val (.int p5), .val (.int (4 : Int32)), .val (.ref a11), .val (.int r8), .val (.int r9), .val (.int r10), .val (.int r11), .val (.int (0 : Int32)), .val (.int k8), .val (.int k9), .val (.int k10), .val (.int k11), .val (.int v232), .val (.double s11), .second, .val (.double ex), .second, .val (.double got), .second, .unset]) (pc' := 352) K at_350 rfl rfl ?_
    refine oW.iload (pc' := 354) K at_352 rfl rfl ?_
    refine oW.iconst (v := (1 : Int32)) (pc' := 355) K at_354 (by decide) rfl ?_
    refine oW.icmp_lt (pc' := 366) (pc3 := 358) K at_355 (by decide) (by decide) rfl (fun q => absurd q (by decide)) (fun _ => ?_)
    refine oW.aload (pc' := 360) K at_358 rfl rfl rfl ?_
    refine oW.iconst (v := (0 : Int32)) (pc' := 361) K at_360 (by decide) rfl ?_
    refine oW.iaload (i := 0) (k := 0) (pc' := 362) K at_361 rfl rfl (by decide) rfl rfl ?_
    refine oW.iloadN (pc' := 363) K at_362 rfl rfl ?_
    refine oW.icmp_ne (pc' := 428) (pc3 := 366) K at_363 (by decide) (by decide) rfl (fun q => absurd rfl q) (fun c363 => ?_)
    refine oW.iload (pc' := 368) K at_366 rfl rfl ?_
    refine oW.iconst (v := (2 : Int32)) (pc' := 369) K at_368 (by decide) rfl ?_
    refine oW.icmp_lt (pc' := 380) (pc3 := 372) K at_369 (by decide) (by decide) rfl (fun q => absurd q (by decide)) (fun _ => ?_)
    refine oW.aload (pc' := 374) K at_372 rfl rfl rfl ?_
    refine oW.iconst (v := (1 : Int32)) (pc' := 375) K at_374 (by decide) rfl ?_
    refine oW.iaload (i := 0) (k := 1) (pc' := 376) K at_375 rfl rfl (by decide) rfl rfl ?_
    refine oW.iloadN (pc' := 377) K at_376 rfl rfl ?_
    refine oW.icmp_ne (pc' := 428) (pc3 := 380) K at_377 (by decide) (by decide) rfl (fun q => absurd rfl q) (fun c377 => ?_)
    refine oW.iload (pc' := 382) K at_380 rfl rfl ?_
    refine oW.iconst (v := (3 : Int32)) (pc' := 383) K at_382 (by decide) rfl ?_
    refine oW.icmp_lt (pc' := 394) (pc3 := 386) K at_383 (by decide) (by decide) rfl (fun q => absurd q (by decide)) (fun _ => ?_)
    refine oW.aload (pc' := 388) K at_386 rfl rfl rfl ?_
    refine oW.iconst (v := (2 : Int32)) (pc' := 389) K at_388 (by decide) rfl ?_
    refine oW.iaload (i := 0) (k := 2) (pc' := 390) K at_389 rfl rfl (by decide) rfl rfl ?_
    refine oW.iloadN (pc' := 391) K at_390 rfl rfl ?_
    refine oW.icmp_ne (pc' := 428) (pc3 := 394) K at_391 (by decide) (by decide) rfl (fun q => absurd rfl q) (fun c391 => ?_)
    refine oW.iload (pc' := 396) K at_394 rfl rfl ?_
    refine oW.iconst (v := (4 : Int32)) (pc' := 397) K at_396 (by decide) rfl ?_
    refine oW.icmp_lt (pc' := 409) (pc3 := 400) K at_397 (by decide) (by decide) rfl (fun q => absurd q (by decide)) (fun _ => ?_)
    refine oW.aload (pc' := 402) K at_400 rfl rfl rfl ?_
    refine oW.iconst (v := (3 : Int32)) (pc' := 403) K at_402 (by decide) rfl ?_
    refine oW.iaload (i := 0) (k := 3) (pc' := 404) K at_403 rfl rfl (by decide) rfl rfl ?_
    refine oW.iload (pc' := 406) K at_404 rfl rfl ?_
    refine oW.icmp_ne (pc' := 428) (pc3 := 409) K at_406 (by decide) (by decide) rfl (fun q => absurd rfl q) (fun c406 => ?_)
    refine oW.iload (pc' := 411) K at_409 rfl rfl ?_
    refine oW.iconst (v := (5 : Int32)) (pc' := 412) K at_411 (by decide) rfl ?_
    refine oW.icmp_lt (pc' := 424) (pc3 := 415) K at_412 (by decide) (by decide) rfl (fun _ => ?_) (fun q => absurd q (by decide))
    refine oW.iconst (v := (1 : Int32)) (pc' := 425) K at_424 (by decide) rfl ?_
    refine oW.goto (pc' := 429) K at_425 (by decide) (by decide) ?_
    refine oW.istore (Ls' := #[.val (.int p0), .val (.int p1), .val (.int p2), .val (.int p3), .val (.int p4), .val (.int p5), .val (.int (4 : Int32)), .val (.ref a11), .val (.int r8), .val (.int r9), .val (.int r10), .val (.int r11), .val (.int (0 : Int32)), .val (.int k8), .val (.int k9), .val (.int k10), .val (.int k11), .val (.int v232), .val (.double s11), .second, .val (.double ex), .second, .val (.double got), .second, .val (.int (1 : Int32))]) (pc' := 431) K at_429 rfl rfl ?_
    refine oW.dload (pc' := 433) K at_431 rfl rfl ?_
    refine oW.dload (pc' := 435) K at_433 rfl rfl ?_
    obtain ⟨v435, ev435⟩ : ∃ z : Int32, z = cmpValue (FP.dcmp got ex) .l := ⟨_, rfl⟩
    refine oW.dcmp (pc' := 436) K at_435 ev435 rfl ?_
    refine oW.if_ne (pc' := 448) (pc3 := 439) K at_436 (by decide) (by decide) rfl (fun q => absurd (oSame ev435 (by rw [ggot, gex]; subst_vars; simp only [Int32.add_zero]) ngot) q) (fun c436 => ?_)
    refine oW.iload (pc' := 441) K at_439 rfl rfl ?_
    refine oW.if_eq (pc' := 448) (pc3 := 444) K at_441 (by decide) (by decide) rfl (fun q => absurd q (by decide)) (fun _ => ?_)
    refine oW.iconst (v := (1 : Int32)) (pc' := 445) K at_444 (by decide) rfl ?_
    refine oW.goto (pc' := 449) K at_445 (by decide) (by decide) ?_
    exact oW.retB K rfl at_449 (by decide) (by decide) ⟨_, rfl, rfl⟩
  · subst hv6
    refine oW.iload (pc' := 11) K at_9 rfl rfl ?_
    refine oW.newarr (n := 5) (cells' := 1) (slots' := 5) (dsf := fun z => [(z, .inl (.int, [(.int (0 : Int32)), (.int (0 : Int32)), (.int (0 : Int32)), (.int (0 : Int32)), (.int (0 : Int32))]))]) (pc' := 13) K (hw _ (List.mem_of_getElem? (i := 1) rfl)) at_11 rfl (by decide) (by decide) (by decide) (by decide) rfl rfl (fun _ => rfl) rfl ?_
    intro a11 ha11
    refine oW.astore (Ls' := #[.val (.int p0), .val (.int p1), .val (.int p2), .val (.int p3), .val (.int p4), .val (.int p5), .val (.int (5 : Int32)), .val (.ref a11), .unset, .unset, .unset, .unset, .unset, .unset, .unset, .unset, .unset, .unset, .unset, .unset, .unset, .unset, .unset, .unset, .unset]) (pc' := 15) K at_13 rfl rfl rfl ?_
    refine oW.iload (pc' := 17) K at_15 rfl rfl ?_
    refine oW.if_le (pc' := 25) (pc3 := 20) K at_17 (by decide) (by decide) rfl (fun q => absurd q (by decide)) (fun _ => ?_)
    refine oW.aload (pc' := 22) K at_20 rfl rfl rfl ?_
    refine oW.iconst (v := (0 : Int32)) (pc' := 23) K at_22 (by decide) rfl ?_
    refine oW.iloadN (pc' := 24) K at_23 rfl rfl ?_
    refine oW.iastore (i := 0) (k := 0) (ds' := [(a11, .inl (.int, [(.int p1), (.int (0 : Int32)), (.int (0 : Int32)), (.int (0 : Int32)), (.int (0 : Int32))]))]) (pc' := 25) K at_24 rfl rfl (by decide) (Nat.lt_of_sub_eq_succ rfl) rfl rfl ?_
    refine oW.iload (pc' := 27) K at_25 rfl rfl ?_
    refine oW.iconst (v := (1 : Int32)) (pc' := 28) K at_27 (by decide) rfl ?_
    refine oW.icmp_le (pc' := 36) (pc3 := 31) K at_28 (by decide) (by decide) rfl (fun q => absurd q (by decide)) (fun _ => ?_)
    refine oW.aload (pc' := 33) K at_31 rfl rfl rfl ?_
    refine oW.iconst (v := (1 : Int32)) (pc' := 34) K at_33 (by decide) rfl ?_
    refine oW.iloadN (pc' := 35) K at_34 rfl rfl ?_
    refine oW.iastore (i := 0) (k := 1) (ds' := [(a11, .inl (.int, [(.int p1), (.int p2), (.int (0 : Int32)), (.int (0 : Int32)), (.int (0 : Int32))]))]) (pc' := 36) K at_35 rfl rfl (by decide) (Nat.lt_of_sub_eq_succ rfl) rfl rfl ?_
    refine oW.iload (pc' := 38) K at_36 rfl rfl ?_
    refine oW.iconst (v := (2 : Int32)) (pc' := 39) K at_38 (by decide) rfl ?_
    refine oW.icmp_le (pc' := 47) (pc3 := 42) K at_39 (by decide) (by decide) rfl (fun q => absurd q (by decide)) (fun _ => ?_)
    refine oW.aload (pc' := 44) K at_42 rfl rfl rfl ?_
    refine oW.iconst (v := (2 : Int32)) (pc' := 45) K at_44 (by decide) rfl ?_
    refine oW.iloadN (pc' := 46) K at_45 rfl rfl ?_
    refine oW.iastore (i := 0) (k := 2) (ds' := [(a11, .inl (.int, [(.int p1), (.int p2), (.int p3), (.int (0 : Int32)), (.int (0 : Int32))]))]) (pc' := 47) K at_46 rfl rfl (by decide) (Nat.lt_of_sub_eq_succ rfl) rfl rfl ?_
    refine oW.iload (pc' := 49) K at_47 rfl rfl ?_
    refine oW.iconst (v := (3 : Int32)) (pc' := 50) K at_49 (by decide) rfl ?_
    refine oW.icmp_le (pc' := 59) (pc3 := 53) K at_50 (by decide) (by decide) rfl (fun q => absurd q (by decide)) (fun _ => ?_)
    refine oW.aload (pc' := 55) K at_53 rfl rfl rfl ?_
    refine oW.iconst (v := (3 : Int32)) (pc' := 56) K at_55 (by decide) rfl ?_
    refine oW.iload (pc' := 58) K at_56 rfl rfl ?_
    refine oW.iastore (i := 0) (k := 3) (ds' := [(a11, .inl (.int, [(.int p1), (.int p2), (.int p3), (.int p4), (.int (0 : Int32))]))]) (pc' := 59) K at_58 rfl rfl (by decide) (Nat.lt_of_sub_eq_succ rfl) rfl rfl ?_
    refine oW.iload (pc' := 61) K at_59 rfl rfl ?_
    refine oW.iconst (v := (4 : Int32)) (pc' := 62) K at_61 (by decide) rfl ?_
    refine oW.icmp_le (pc' := 71) (pc3 := 65) K at_62 (by decide) (by decide) rfl (fun q => absurd q (by decide)) (fun _ => ?_)
    refine oW.aload (pc' := 67) K at_65 rfl rfl rfl ?_
    refine oW.iconst (v := (4 : Int32)) (pc' := 68) K at_67 (by decide) rfl ?_
    refine oW.iload (pc' := 70) K at_68 rfl rfl ?_
    refine oW.iastore (i := 0) (k := 4) (ds' := [(a11, .inl (.int, [(.int p1), (.int p2), (.int p3), (.int p4), (.int p5)]))]) (pc' := 71) K at_70 rfl rfl (by decide) (Nat.lt_of_sub_eq_succ rfl) rfl rfl ?_
    refine oW.iload (pc' := 73) K at_71 rfl rfl ?_
    refine oW.iconst (v := (1 : Int32)) (pc' := 74) K at_73 (by decide) rfl ?_
    refine oW.icmp_lt (pc' := 86) (pc3 := 77) K at_74 (by decide) (by decide) rfl (fun q => absurd q (by decide)) (fun _ => ?_)
    refine oW.join (F := fun z : Int32 => z = oR p1) (pcj := 87) (Lf := fun z => #[.val (.int p0), .val (.int p1), .val (.int p2), .val (.int p3), .val (.int p4), .val (.int p5), .val (.int (5 : Int32)), .val (.ref a11), .unset, .unset, .unset, .unset, .unset, .unset, .unset, .unset, .unset, .unset, .unset, .unset, .unset, .unset, .unset, .unset, .unset]) (Sf := fun z => [(.int z)]) (dsf := fun z => [(a11, .inl (.int, [(.int p1), (.int p2), (.int p3), (.int p4), (.int p5)]))]) ?_ ?_
    · intro J
      refine oW.iloadN (pc' := 78) K at_77 rfl rfl ?_
      refine oW.iconst (v := (1 : Int32)) (pc' := 79) K at_78 (by decide) rfl ?_
      refine oW.icmp_lt (pc' := 86) (pc3 := 82) K at_79 (by decide) (by decide) rfl (fun c79 => ?_) (fun c79 => ?_)
      · refine oW.iconst (v := (0 : Int32)) (pc' := 87) K at_86 (by decide) rfl ?_
        exact J (0 : Int32) (oR_0 c79)
      · refine oW.iconst (v := (1 : Int32)) (pc' := 83) K at_82 (by decide) rfl ?_
        refine oW.goto (pc' := 87) K at_83 (by decide) (by decide) ?_
        exact J (1 : Int32) (oR_1 c79)
    intro r8 hr8
    refine oW.istore (Ls' := #[.val (.int p0), .val (.int p1), .val (.int p2), .val (.int p3), .val (.int p4), .val (.int p5), .val (.int (5 : Int32)), .val (.ref a11), .val (.int r8), .unset, .unset, .unset, .unset, .unset, .unset, .unset, .unset, .unset, .unset, .unset, .unset, .unset, .unset, .unset, .unset]) (pc' := 89) K at_87 rfl rfl ?_
    refine oW.iload (pc' := 91) K at_89 rfl rfl ?_
    refine oW.iconst (v := (2 : Int32)) (pc' := 92) K at_91 (by decide) rfl ?_
    refine oW.icmp_lt (pc' := 104) (pc3 := 95) K at_92 (by decide) (by decide) rfl (fun q => absurd q (by decide)) (fun _ => ?_)
    refine oW.join (F := fun z : Int32 => z = oR p2) (pcj := 105) (Lf := fun z => #[.val (.int p0), .val (.int p1), .val (.int p2), .val (.int p3), .val (.int p4), .val (.int p5), .val (.int (5 : Int32)), .val (.ref a11), .val (.int r8), .unset, .unset, .unset, .unset, .unset, .unset, .unset, .unset, .unset, .unset, .unset, .unset, .unset, .unset, .unset, .unset]) (Sf := fun z => [(.int z)]) (dsf := fun z => [(a11, .inl (.int, [(.int p1), (.int p2), (.int p3), (.int p4), (.int p5)]))]) ?_ ?_
    · intro J
      refine oW.iloadN (pc' := 96) K at_95 rfl rfl ?_
      refine oW.iconst (v := (1 : Int32)) (pc' := 97) K at_96 (by decide) rfl ?_
      refine oW.icmp_lt (pc' := 104) (pc3 := 100) K at_97 (by decide) (by decide) rfl (fun c97 => ?_) (fun c97 => ?_)
      · refine oW.iconst (v := (0 : Int32)) (pc' := 105) K at_104 (by decide) rfl ?_
        exact J (0 : Int32) (oR_0 c97)
      · refine oW.iconst (v := (1 : Int32)) (pc' := 101) K at_100 (by decide) rfl ?_
        refine oW.goto (pc' := 105) K at_101 (by decide) (by decide) ?_
        exact J (1 : Int32) (oR_1 c97)
    intro r9 hr9
    refine oW.istore (Ls' := #[.val (.int p0), .val (.int p1), .val (.int p2), .val (.int p3), .val (.int p4), .val (.int p5), .val (.int (5 : Int32)), .val (.ref a11), .val (.int r8), .val (.int r9), .unset, .unset, .unset, .unset, .unset, .unset, .unset, .unset, .unset, .unset, .unset, .unset, .unset, .unset, .unset]) (pc' := 107) K at_105 rfl rfl ?_
    refine oW.iload (pc' := 109) K at_107 rfl rfl ?_
    refine oW.iconst (v := (3 : Int32)) (pc' := 110) K at_109 (by decide) rfl ?_
    refine oW.icmp_lt (pc' := 122) (pc3 := 113) K at_110 (by decide) (by decide) rfl (fun q => absurd q (by decide)) (fun _ => ?_)
    refine oW.join (F := fun z : Int32 => z = oR p3) (pcj := 123) (Lf := fun z => #[.val (.int p0), .val (.int p1), .val (.int p2), .val (.int p3), .val (.int p4), .val (.int p5), .val (.int (5 : Int32)), .val (.ref a11), .val (.int r8), .val (.int r9), .unset, .unset, .unset, .unset, .unset, .unset, .unset, .unset, .unset, .unset, .unset, .unset, .unset, .unset, .unset]) (Sf := fun z => [(.int z)]) (dsf := fun z => [(a11, .inl (.int, [(.int p1), (.int p2), (.int p3), (.int p4), (.int p5)]))]) ?_ ?_
    · intro J
      refine oW.iloadN (pc' := 114) K at_113 rfl rfl ?_
      refine oW.iconst (v := (1 : Int32)) (pc' := 115) K at_114 (by decide) rfl ?_
      refine oW.icmp_lt (pc' := 122) (pc3 := 118) K at_115 (by decide) (by decide) rfl (fun c115 => ?_) (fun c115 => ?_)
      · refine oW.iconst (v := (0 : Int32)) (pc' := 123) K at_122 (by decide) rfl ?_
        exact J (0 : Int32) (oR_0 c115)
      · refine oW.iconst (v := (1 : Int32)) (pc' := 119) K at_118 (by decide) rfl ?_
        refine oW.goto (pc' := 123) K at_119 (by decide) (by decide) ?_
        exact J (1 : Int32) (oR_1 c115)
    intro r10 hr10
    refine oW.istore (Ls' := #[.val (.int p0), .val (.int p1), .val (.int p2), .val (.int p3), .val (.int p4), .val (.int p5), .val (.int (5 : Int32)), .val (.ref a11), .val (.int r8), .val (.int r9), .val (.int r10), .unset, .unset, .unset, .unset, .unset, .unset, .unset, .unset, .unset, .unset, .unset, .unset, .unset, .unset]) (pc' := 125) K at_123 rfl rfl ?_
    refine oW.iload (pc' := 127) K at_125 rfl rfl ?_
    refine oW.iconst (v := (4 : Int32)) (pc' := 128) K at_127 (by decide) rfl ?_
    refine oW.icmp_lt (pc' := 141) (pc3 := 131) K at_128 (by decide) (by decide) rfl (fun q => absurd q (by decide)) (fun _ => ?_)
    refine oW.join (F := fun z : Int32 => z = oR p4) (pcj := 142) (Lf := fun z => #[.val (.int p0), .val (.int p1), .val (.int p2), .val (.int p3), .val (.int p4), .val (.int p5), .val (.int (5 : Int32)), .val (.ref a11), .val (.int r8), .val (.int r9), .val (.int r10), .unset, .unset, .unset, .unset, .unset, .unset, .unset, .unset, .unset, .unset, .unset, .unset, .unset, .unset]) (Sf := fun z => [(.int z)]) (dsf := fun z => [(a11, .inl (.int, [(.int p1), (.int p2), (.int p3), (.int p4), (.int p5)]))]) ?_ ?_
    · intro J
      refine oW.iload (pc' := 133) K at_131 rfl rfl ?_
      refine oW.iconst (v := (1 : Int32)) (pc' := 134) K at_133 (by decide) rfl ?_
      refine oW.icmp_lt (pc' := 141) (pc3 := 137) K at_134 (by decide) (by decide) rfl (fun c134 => ?_) (fun c134 => ?_)
      · refine oW.iconst (v := (0 : Int32)) (pc' := 142) K at_141 (by decide) rfl ?_
        exact J (0 : Int32) (oR_0 c134)
      · refine oW.iconst (v := (1 : Int32)) (pc' := 138) K at_137 (by decide) rfl ?_
        refine oW.goto (pc' := 142) K at_138 (by decide) (by decide) ?_
        exact J (1 : Int32) (oR_1 c134)
    intro r11 hr11
    refine oW.istore (Ls' := #[.val (.int p0), .val (.int p1), .val (.int p2), .val (.int p3), .val (.int p4), .val (.int p5), .val (.int (5 : Int32)), .val (.ref a11), .val (.int r8), .val (.int r9), .val (.int r10), .val (.int r11), .unset, .unset, .unset, .unset, .unset, .unset, .unset, .unset, .unset, .unset, .unset, .unset, .unset]) (pc' := 144) K at_142 rfl rfl ?_
    refine oW.iload (pc' := 146) K at_144 rfl rfl ?_
    refine oW.iconst (v := (5 : Int32)) (pc' := 147) K at_146 (by decide) rfl ?_
    refine oW.icmp_lt (pc' := 160) (pc3 := 150) K at_147 (by decide) (by decide) rfl (fun q => absurd q (by decide)) (fun _ => ?_)
    refine oW.join (F := fun z : Int32 => z = oR p5) (pcj := 161) (Lf := fun z => #[.val (.int p0), .val (.int p1), .val (.int p2), .val (.int p3), .val (.int p4), .val (.int p5), .val (.int (5 : Int32)), .val (.ref a11), .val (.int r8), .val (.int r9), .val (.int r10), .val (.int r11), .unset, .unset, .unset, .unset, .unset, .unset, .unset, .unset, .unset, .unset, .unset, .unset, .unset]) (Sf := fun z => [(.int z)]) (dsf := fun z => [(a11, .inl (.int, [(.int p1), (.int p2), (.int p3), (.int p4), (.int p5)]))]) ?_ ?_
    · intro J
      refine oW.iload (pc' := 152) K at_150 rfl rfl ?_
      refine oW.iconst (v := (1 : Int32)) (pc' := 153) K at_152 (by decide) rfl ?_
      refine oW.icmp_lt (pc' := 160) (pc3 := 156) K at_153 (by decide) (by decide) rfl (fun c153 => ?_) (fun c153 => ?_)
      · refine oW.iconst (v := (0 : Int32)) (pc' := 161) K at_160 (by decide) rfl ?_
        exact J (0 : Int32) (oR_0 c153)
      · refine oW.iconst (v := (1 : Int32)) (pc' := 157) K at_156 (by decide) rfl ?_
        refine oW.goto (pc' := 161) K at_157 (by decide) (by decide) ?_
        exact J (1 : Int32) (oR_1 c153)
    intro r12 hr12
    refine oW.istore (Ls' := #[.val (.int p0), .val (.int p1), .val (.int p2), .val (.int p3), .val (.int p4), .val (.int p5), .val (.int (5 : Int32)), .val (.ref a11), .val (.int r8), .val (.int r9), .val (.int r10), .val (.int r11), .val (.int r12), .unset, .unset, .unset, .unset, .unset, .unset, .unset, .unset, .unset, .unset, .unset, .unset]) (pc' := 163) K at_161 rfl rfl ?_
    refine oW.join (F := fun z : Int32 => z = oC (0 : Int32) p1) (pcj := 173) (Lf := fun z => #[.val (.int p0), .val (.int p1), .val (.int p2), .val (.int p3), .val (.int p4), .val (.int p5), .val (.int (5 : Int32)), .val (.ref a11), .val (.int r8), .val (.int r9), .val (.int r10), .val (.int r11), .val (.int r12), .unset, .unset, .unset, .unset, .unset, .unset, .unset, .unset, .unset, .unset, .unset, .unset]) (Sf := fun z => [(.int z)]) (dsf := fun z => [(a11, .inl (.int, [(.int p1), (.int p2), (.int p3), (.int p4), (.int p5)]))]) ?_ ?_
    · intro J
      refine oW.iload (pc' := 165) K at_163 rfl rfl ?_
      refine oW.if_eq (pc' := 172) (pc3 := 168) K at_165 (by decide) (by decide) rfl (fun c165 => ?_) (fun c165 => ?_)
      · refine oW.iconst (v := (0 : Int32)) (pc' := 173) K at_172 (by decide) rfl ?_
        exact J (0 : Int32) (oC_z rfl (oR_z hr8 c165))
      · refine oW.iconst (v := (1 : Int32)) (pc' := 169) K at_168 (by decide) rfl ?_
        refine oW.goto (pc' := 173) K at_169 (by decide) (by decide) ?_
        exact J (1 : Int32) (oC_n (by decide) (oR_n hr8 c165))
    intro k8 hk8
    refine oW.istore (Ls' := #[.val (.int p0), .val (.int p1), .val (.int p2), .val (.int p3), .val (.int p4), .val (.int p5), .val (.int (5 : Int32)), .val (.ref a11), .val (.int r8), .val (.int r9), .val (.int r10), .val (.int r11), .val (.int r12), .val (.int k8), .unset, .unset, .unset, .unset, .unset, .unset, .unset, .unset, .unset, .unset, .unset]) (pc' := 175) K at_173 rfl rfl ?_
    refine oW.join (F := fun z : Int32 => z = oC k8 p2) (pcj := 188) (Lf := fun z => #[.val (.int p0), .val (.int p1), .val (.int p2), .val (.int p3), .val (.int p4), .val (.int p5), .val (.int (5 : Int32)), .val (.ref a11), .val (.int r8), .val (.int r9), .val (.int r10), .val (.int r11), .val (.int r12), .val (.int k8), .unset, .unset, .unset, .unset, .unset, .unset, .unset, .unset, .unset, .unset, .unset]) (Sf := fun z => [(.int z)]) (dsf := fun z => [(a11, .inl (.int, [(.int p1), (.int p2), (.int p3), (.int p4), (.int p5)]))]) ?_ ?_
    · intro J
      refine oW.iload (pc' := 177) K at_175 rfl rfl ?_
      refine oW.iload (pc' := 179) K at_177 rfl rfl ?_
      refine oW.if_eq (pc' := 186) (pc3 := 182) K at_179 (by decide) (by decide) rfl (fun c179 => ?_) (fun c179 => ?_)
      · refine oW.iconst (v := (0 : Int32)) (pc' := 187) K at_186 (by decide) rfl ?_
        obtain ⟨v187, ev187⟩ : ∃ z : Int32, z = k8 + (0 : Int32) := ⟨_, rfl⟩
        refine oW.iadd (pc' := 188) K at_187 ev187 rfl ?_
        exact J v187 (oC_z (ev187.trans (Int32.add_zero _)) (oR_z hr9 c179))
      · refine oW.iconst (v := (1 : Int32)) (pc' := 183) K at_182 (by decide) rfl ?_
        refine oW.goto (pc' := 187) K at_183 (by decide) (by decide) ?_
        obtain ⟨v187, ev187⟩ : ∃ z : Int32, z = k8 + (1 : Int32) := ⟨_, rfl⟩
        refine oW.iadd (pc' := 188) K at_187 ev187 rfl ?_
        exact J v187 (oC_n ev187 (oR_n hr9 c179))
    intro k9 hk9
    refine oW.istore (Ls' := #[.val (.int p0), .val (.int p1), .val (.int p2), .val (.int p3), .val (.int p4), .val (.int p5), .val (.int (5 : Int32)), .val (.ref a11), .val (.int r8), .val (.int r9), .val (.int r10), .val (.int r11), .val (.int r12), .val (.int k8), .val (.int k9), .unset, .unset, .unset, .unset, .unset, .unset, .unset, .unset, .unset, .unset]) (pc' := 190) K at_188 rfl rfl ?_
    refine oW.join (F := fun z : Int32 => z = oC k9 p3) (pcj := 203) (Lf := fun z => #[.val (.int p0), .val (.int p1), .val (.int p2), .val (.int p3), .val (.int p4), .val (.int p5), .val (.int (5 : Int32)), .val (.ref a11), .val (.int r8), .val (.int r9), .val (.int r10), .val (.int r11), .val (.int r12), .val (.int k8), .val (.int k9), .unset, .unset, .unset, .unset, .unset, .unset, .unset, .unset, .unset, .unset]) (Sf := fun z => [(.int z)]) (dsf := fun z => [(a11, .inl (.int, [(.int p1), (.int p2), (.int p3), (.int p4), (.int p5)]))]) ?_ ?_
    · intro J
      refine oW.iload (pc' := 192) K at_190 rfl rfl ?_
      refine oW.iload (pc' := 194) K at_192 rfl rfl ?_
      refine oW.if_eq (pc' := 201) (pc3 := 197) K at_194 (by decide) (by decide) rfl (fun c194 => ?_) (fun c194 => ?_)
      · refine oW.iconst (v := (0 : Int32)) (pc' := 202) K at_201 (by decide) rfl ?_
        obtain ⟨v202, ev202⟩ : ∃ z : Int32, z = k9 + (0 : Int32) := ⟨_, rfl⟩
        refine oW.iadd (pc' := 203) K at_202 ev202 rfl ?_
        exact J v202 (oC_z (ev202.trans (Int32.add_zero _)) (oR_z hr10 c194))
      · refine oW.iconst (v := (1 : Int32)) (pc' := 198) K at_197 (by decide) rfl ?_
        refine oW.goto (pc' := 202) K at_198 (by decide) (by decide) ?_
        obtain ⟨v202, ev202⟩ : ∃ z : Int32, z = k9 + (1 : Int32) := ⟨_, rfl⟩
        refine oW.iadd (pc' := 203) K at_202 ev202 rfl ?_
        exact J v202 (oC_n ev202 (oR_n hr10 c194))
    intro k10 hk10
    refine oW.istore (Ls' := #[.val (.int p0), .val (.int p1), .val (.int p2), .val (.int p3), .val (.int p4), .val (.int p5), .val (.int (5 : Int32)), .val (.ref a11), .val (.int r8), .val (.int r9), .val (.int r10), .val (.int r11), .val (.int r12), .val (.int k8), .val (.int k9), .val (.int k10), .unset, .unset, .unset, .unset, .unset, .unset, .unset, .unset, .unset]) (pc' := 205) K at_203 rfl rfl ?_
    refine oW.join (F := fun z : Int32 => z = oC k10 p4) (pcj := 218) (Lf := fun z => #[.val (.int p0), .val (.int p1), .val (.int p2), .val (.int p3), .val (.int p4), .val (.int p5), .val (.int (5 : Int32)), .val (.ref a11), .val (.int r8), .val (.int r9), .val (.int r10), .val (.int r11), .val (.int r12), .val (.int k8), .val (.int k9), .val (.int k10), .unset, .unset, .unset, .unset, .unset, .unset, .unset, .unset, .unset]) (Sf := fun z => [(.int z)]) (dsf := fun z => [(a11, .inl (.int, [(.int p1), (.int p2), (.int p3), (.int p4), (.int p5)]))]) ?_ ?_
    · intro J
      refine oW.iload (pc' := 207) K at_205 rfl rfl ?_
      refine oW.iload (pc' := 209) K at_207 rfl rfl ?_
      refine oW.if_eq (pc' := 216) (pc3 := 212) K at_209 (by decide) (by decide) rfl (fun c209 => ?_) (fun c209 => ?_)
      · refine oW.iconst (v := (0 : Int32)) (pc' := 217) K at_216 (by decide) rfl ?_
        obtain ⟨v217, ev217⟩ : ∃ z : Int32, z = k10 + (0 : Int32) := ⟨_, rfl⟩
        refine oW.iadd (pc' := 218) K at_217 ev217 rfl ?_
        exact J v217 (oC_z (ev217.trans (Int32.add_zero _)) (oR_z hr11 c209))
      · refine oW.iconst (v := (1 : Int32)) (pc' := 213) K at_212 (by decide) rfl ?_
        refine oW.goto (pc' := 217) K at_213 (by decide) (by decide) ?_
        obtain ⟨v217, ev217⟩ : ∃ z : Int32, z = k10 + (1 : Int32) := ⟨_, rfl⟩
        refine oW.iadd (pc' := 218) K at_217 ev217 rfl ?_
        exact J v217 (oC_n ev217 (oR_n hr11 c209))
    intro k11 hk11
    refine oW.istore (Ls' := #[.val (.int p0), .val (.int p1), .val (.int p2), .val (.int p3), .val (.int p4), .val (.int p5), .val (.int (5 : Int32)), .val (.ref a11), .val (.int r8), .val (.int r9), .val (.int r10), .val (.int r11), .val (.int r12), .val (.int k8), .val (.int k9), .val (.int k10), .val (.int k11), .unset, .unset, .unset, .unset, .unset, .unset, .unset, .unset]) (pc' := 220) K at_218 rfl rfl ?_
    refine oW.join (F := fun z : Int32 => z = oC k11 p5) (pcj := 233) (Lf := fun z => #[.val (.int p0), .val (.int p1), .val (.int p2), .val (.int p3), .val (.int p4), .val (.int p5), .val (.int (5 : Int32)), .val (.ref a11), .val (.int r8), .val (.int r9), .val (.int r10), .val (.int r11), .val (.int r12), .val (.int k8), .val (.int k9), .val (.int k10), .val (.int k11), .unset, .unset, .unset, .unset, .unset, .unset, .unset, .unset]) (Sf := fun z => [(.int z)]) (dsf := fun z => [(a11, .inl (.int, [(.int p1), (.int p2), (.int p3), (.int p4), (.int p5)]))]) ?_ ?_
    · intro J
      refine oW.iload (pc' := 222) K at_220 rfl rfl ?_
      refine oW.iload (pc' := 224) K at_222 rfl rfl ?_
      refine oW.if_eq (pc' := 231) (pc3 := 227) K at_224 (by decide) (by decide) rfl (fun c224 => ?_) (fun c224 => ?_)
      · refine oW.iconst (v := (0 : Int32)) (pc' := 232) K at_231 (by decide) rfl ?_
        obtain ⟨v232, ev232⟩ : ∃ z : Int32, z = k11 + (0 : Int32) := ⟨_, rfl⟩
        refine oW.iadd (pc' := 233) K at_232 ev232 rfl ?_
        exact J v232 (oC_z (ev232.trans (Int32.add_zero _)) (oR_z hr12 c224))
      · refine oW.iconst (v := (1 : Int32)) (pc' := 228) K at_227 (by decide) rfl ?_
        refine oW.goto (pc' := 232) K at_228 (by decide) (by decide) ?_
        obtain ⟨v232, ev232⟩ : ∃ z : Int32, z = k11 + (1 : Int32) := ⟨_, rfl⟩
        refine oW.iadd (pc' := 233) K at_232 ev232 rfl ?_
        exact J v232 (oC_n ev232 (oR_n hr12 c224))
    intro k12 hk12
    refine oW.istore (Ls' := #[.val (.int p0), .val (.int p1), .val (.int p2), .val (.int p3), .val (.int p4), .val (.int p5), .val (.int (5 : Int32)), .val (.ref a11), .val (.int r8), .val (.int r9), .val (.int r10), .val (.int r11), .val (.int r12), .val (.int k8), .val (.int k9), .val (.int k10), .val (.int k11), .val (.int k12), .unset, .unset, .unset, .unset, .unset, .unset, .unset]) (pc' := 235) K at_233 rfl rfl ?_
    refine oW.dconst0 (pc' := 236) K at_235 rfl ?_
    refine oW.dstore (Ls' := #[.val (.int p0), .val (.int p1), .val (.int p2), .val (.int p3), .val (.int p4), .val (.int p5), .val (.int (5 : Int32)), .val (.ref a11), .val (.int r8), .val (.int r9), .val (.int r10), .val (.int r11), .val (.int r12), .val (.int k8), .val (.int k9), .val (.int k10), .val (.int k11), .val (.int k12), .val (.double (0 : UInt64)), .second, .unset, .unset, .unset, .unset, .unset]) (pc' := 238) K at_236 rfl rfl ?_
    refine oW.join (F := fun z : UInt64 => z = oS (0 : UInt64) k8 (4607182418800017408 : UInt64) p1 ∧ oMag 1059 z) (pcj := 253) (Lf := fun z => #[.val (.int p0), .val (.int p1), .val (.int p2), .val (.int p3), .val (.int p4), .val (.int p5), .val (.int (5 : Int32)), .val (.ref a11), .val (.int r8), .val (.int r9), .val (.int r10), .val (.int r11), .val (.int r12), .val (.int k8), .val (.int k9), .val (.int k10), .val (.int k11), .val (.int k12), .val (.double z), .second, .unset, .unset, .unset, .unset, .unset]) (Sf := fun z => []) (dsf := fun z => [(a11, .inl (.int, [(.int p1), (.int p2), (.int p3), (.int p4), (.int p5)]))]) ?_ ?_
    · intro J
      refine oW.iload (pc' := 240) K at_238 rfl rfl ?_
      refine oW.if_eq (pc' := 253) (pc3 := 243) K at_240 (by decide) (by decide) rfl (fun c240 => ?_) (fun c240 => ?_)
      · exact J (0 : UInt64) (⟨oS_z (oR_z hr8 c240), Jvm.Free.Fl.Mag64.mono (by unfold oMag Jvm.Free.Fl.Mag64; decide : oMag 1 (0 : UInt64)) (by decide)⟩)
      · refine oW.dload (pc' := 245) K at_243 rfl rfl ?_
        refine oW.iload (pc' := 247) K at_245 rfl rfl ?_
        obtain ⟨v247, ev247⟩ : ∃ z : UInt64, z = FP.i2d k8 := ⟨_, rfl⟩
        have mv247 : oMag 1056 v247 := oMI2D ev247
        refine oW.i2d (pc' := 248) K at_247 ev247 rfl ?_
        refine oW.dconst1 (pc' := 249) K at_248 rfl ?_
        obtain ⟨v249, ev249⟩ : ∃ z : UInt64, z = FP.ddiv v247 (4607182418800017408 : UInt64) := ⟨_, rfl⟩
        have mv249 : oMag 1057 v249 := oMDiv mv247 (by unfold Big64; decide : Big64 1023 (4607182418800017408 : UInt64)) ev249 (by decide)
        refine oW.ddiv (pc' := 250) K at_249 ev249 (oMNN mv249 (by decide)) rfl ?_
        obtain ⟨v250, ev250⟩ : ∃ z : UInt64, z = FP.dadd (0 : UInt64) v249 := ⟨_, rfl⟩
        have mv250 : oMag 1059 v250 := oMAdd (A := 1057) (Jvm.Free.Fl.Mag64.mono (by unfold oMag Jvm.Free.Fl.Mag64; decide : oMag 1 (0 : UInt64)) (by decide)) mv249 ev250 (by decide)
        refine oW.dadd (pc' := 251) K at_250 ev250 (oMNN mv250 (by decide)) rfl ?_
        refine oW.dstore (Ls' := #[.val (.int p0), .val (.int p1), .val (.int p2), .val (.int p3), .val (.int p4), .val (.int p5), .val (.int (5 : Int32)), .val (.ref a11), .val (.int r8), .val (.int r9), .val (.int r10), .val (.int r11), .val (.int r12), .val (.int k8), .val (.int k9), .val (.int k10), .val (.int k11), .val (.int k12), .val (.double v250), .second, .unset, .unset, .unset, .unset, .unset]) (pc' := 253) K at_251 rfl rfl ?_
        exact J v250 (⟨oS_n ev247 ev249 ev250 (oR_n hr8 c240) rfl, mv250⟩)
    intro s8 hs8
    obtain ⟨gs8, ms8⟩ := hs8
    refine oW.join (F := fun z : UInt64 => z = oS s8 k9 (4611686018427387904 : UInt64) p2 ∧ oMag 1061 z) (pcj := 270) (Lf := fun z => #[.val (.int p0), .val (.int p1), .val (.int p2), .val (.int p3), .val (.int p4), .val (.int p5), .val (.int (5 : Int32)), .val (.ref a11), .val (.int r8), .val (.int r9), .val (.int r10), .val (.int r11), .val (.int r12), .val (.int k8), .val (.int k9), .val (.int k10), .val (.int k11), .val (.int k12), .val (.double z), .second, .unset, .unset, .unset, .unset, .unset]) (Sf := fun z => []) (dsf := fun z => [(a11, .inl (.int, [(.int p1), (.int p2), (.int p3), (.int p4), (.int p5)]))]) ?_ ?_
    · intro J
      refine oW.iload (pc' := 255) K at_253 rfl rfl ?_
      refine oW.if_eq (pc' := 270) (pc3 := 258) K at_255 (by decide) (by decide) rfl (fun c255 => ?_) (fun c255 => ?_)
      · exact J s8 (⟨oS_z (oR_z hr9 c255), Jvm.Free.Fl.Mag64.mono ms8 (by decide)⟩)
      · refine oW.dload (pc' := 260) K at_258 rfl rfl ?_
        refine oW.iload (pc' := 262) K at_260 rfl rfl ?_
        obtain ⟨v262, ev262⟩ : ∃ z : UInt64, z = FP.i2d k9 := ⟨_, rfl⟩
        have mv262 : oMag 1056 v262 := oMI2D ev262
        refine oW.i2d (pc' := 263) K at_262 ev262 rfl ?_
        refine oW.ldc2D (pc' := 266) K (hw _ (List.mem_of_getElem? (i := 16) rfl)) at_263 rfl ?_
        obtain ⟨v266, ev266⟩ : ∃ z : UInt64, z = FP.ddiv v262 (4611686018427387904 : UInt64) := ⟨_, rfl⟩
        have mv266 : oMag 1056 v266 := oMDiv mv262 (by unfold Big64; decide : Big64 1024 (4611686018427387904 : UInt64)) ev266 (by decide)
        refine oW.ddiv (pc' := 267) K at_266 ev266 (oMNN mv266 (by decide)) rfl ?_
        obtain ⟨v267, ev267⟩ : ∃ z : UInt64, z = FP.dadd s8 v266 := ⟨_, rfl⟩
        have mv267 : oMag 1061 v267 := oMAdd (A := 1059) ms8 (Jvm.Free.Fl.Mag64.mono mv266 (by decide)) ev267 (by decide)
        refine oW.dadd (pc' := 268) K at_267 ev267 (oMNN mv267 (by decide)) rfl ?_
        refine oW.dstore (Ls' := #[.val (.int p0), .val (.int p1), .val (.int p2), .val (.int p3), .val (.int p4), .val (.int p5), .val (.int (5 : Int32)), .val (.ref a11), .val (.int r8), .val (.int r9), .val (.int r10), .val (.int r11), .val (.int r12), .val (.int k8), .val (.int k9), .val (.int k10), .val (.int k11), .val (.int k12), .val (.double v267), .second, .unset, .unset, .unset, .unset, .unset]) (pc' := 270) K at_268 rfl rfl ?_
        exact J v267 (⟨oS_n ev262 ev266 ev267 (oR_n hr9 c255) rfl, mv267⟩)
    intro s9 hs9
    obtain ⟨gs9, ms9⟩ := hs9
    refine oW.join (F := fun z : UInt64 => z = oS s9 k10 (4613937818241073152 : UInt64) p3 ∧ oMag 1063 z) (pcj := 287) (Lf := fun z => #[.val (.int p0), .val (.int p1), .val (.int p2), .val (.int p3), .val (.int p4), .val (.int p5), .val (.int (5 : Int32)), .val (.ref a11), .val (.int r8), .val (.int r9), .val (.int r10), .val (.int r11), .val (.int r12), .val (.int k8), .val (.int k9), .val (.int k10), .val (.int k11), .val (.int k12), .val (.double z), .second, .unset, .unset, .unset, .unset, .unset]) (Sf := fun z => []) (dsf := fun z => [(a11, .inl (.int, [(.int p1), (.int p2), (.int p3), (.int p4), (.int p5)]))]) ?_ ?_
    · intro J
      refine oW.iload (pc' := 272) K at_270 rfl rfl ?_
      refine oW.if_eq (pc' := 287) (pc3 := 275) K at_272 (by decide) (by decide) rfl (fun c272 => ?_) (fun c272 => ?_)
      · exact J s9 (⟨oS_z (oR_z hr10 c272), Jvm.Free.Fl.Mag64.mono ms9 (by decide)⟩)
      · refine oW.dload (pc' := 277) K at_275 rfl rfl ?_
        refine oW.iload (pc' := 279) K at_277 rfl rfl ?_
        obtain ⟨v279, ev279⟩ : ∃ z : UInt64, z = FP.i2d k10 := ⟨_, rfl⟩
        have mv279 : oMag 1056 v279 := oMI2D ev279
        refine oW.i2d (pc' := 280) K at_279 ev279 rfl ?_
        refine oW.ldc2D (pc' := 283) K (hw _ (List.mem_of_getElem? (i := 17) rfl)) at_280 rfl ?_
        obtain ⟨v283, ev283⟩ : ∃ z : UInt64, z = FP.ddiv v279 (4613937818241073152 : UInt64) := ⟨_, rfl⟩
        have mv283 : oMag 1056 v283 := oMDiv mv279 (by unfold Big64; decide : Big64 1024 (4613937818241073152 : UInt64)) ev283 (by decide)
        refine oW.ddiv (pc' := 284) K at_283 ev283 (oMNN mv283 (by decide)) rfl ?_
        obtain ⟨v284, ev284⟩ : ∃ z : UInt64, z = FP.dadd s9 v283 := ⟨_, rfl⟩
        have mv284 : oMag 1063 v284 := oMAdd (A := 1061) ms9 (Jvm.Free.Fl.Mag64.mono mv283 (by decide)) ev284 (by decide)
        refine oW.dadd (pc' := 285) K at_284 ev284 (oMNN mv284 (by decide)) rfl ?_
        refine oW.dstore (Ls' := #[.val (.int p0), .val (.int p1), .val (.int p2), .val (.int p3), .val (.int p4), .val (.int p5), .val (.int (5 : Int32)), .val (.ref a11), .val (.int r8), .val (.int r9), .val (.int r10), .val (.int r11), .val (.int r12), .val (.int k8), .val (.int k9), .val (.int k10), .val (.int k11), .val (.int k12), .val (.double v284), .second, .unset, .unset, .unset, .unset, .unset]) (pc' := 287) K at_285 rfl rfl ?_
        exact J v284 (⟨oS_n ev279 ev283 ev284 (oR_n hr10 c272) rfl, mv284⟩)
    intro s10 hs10
    obtain ⟨gs10, ms10⟩ := hs10
    refine oW.join (F := fun z : UInt64 => z = oS s10 k11 (4616189618054758400 : UInt64) p4 ∧ oMag 1065 z) (pcj := 304) (Lf := fun z => #[.val (.int p0), .val (.int p1), .val (.int p2), .val (.int p3), .val (.int p4), .val (.int p5), .val (.int (5 : Int32)), .val (.ref a11), .val (.int r8), .val (.int r9), .val (.int r10), .val (.int r11), .val (.int r12), .val (.int k8), .val (.int k9), .val (.int k10), .val (.int k11), .val (.int k12), .val (.double z), .second, .unset, .unset, .unset, .unset, .unset]) (Sf := fun z => []) (dsf := fun z => [(a11, .inl (.int, [(.int p1), (.int p2), (.int p3), (.int p4), (.int p5)]))]) ?_ ?_
    · intro J
      refine oW.iload (pc' := 289) K at_287 rfl rfl ?_
      refine oW.if_eq (pc' := 304) (pc3 := 292) K at_289 (by decide) (by decide) rfl (fun c289 => ?_) (fun c289 => ?_)
      · exact J s10 (⟨oS_z (oR_z hr11 c289), Jvm.Free.Fl.Mag64.mono ms10 (by decide)⟩)
      · refine oW.dload (pc' := 294) K at_292 rfl rfl ?_
        refine oW.iload (pc' := 296) K at_294 rfl rfl ?_
        obtain ⟨v296, ev296⟩ : ∃ z : UInt64, z = FP.i2d k11 := ⟨_, rfl⟩
        have mv296 : oMag 1056 v296 := oMI2D ev296
        refine oW.i2d (pc' := 297) K at_296 ev296 rfl ?_
        refine oW.ldc2D (pc' := 300) K (hw _ (List.mem_of_getElem? (i := 18) rfl)) at_297 rfl ?_
        obtain ⟨v300, ev300⟩ : ∃ z : UInt64, z = FP.ddiv v296 (4616189618054758400 : UInt64) := ⟨_, rfl⟩
        have mv300 : oMag 1055 v300 := oMDiv mv296 (by unfold Big64; decide : Big64 1025 (4616189618054758400 : UInt64)) ev300 (by decide)
        refine oW.ddiv (pc' := 301) K at_300 ev300 (oMNN mv300 (by decide)) rfl ?_
        obtain ⟨v301, ev301⟩ : ∃ z : UInt64, z = FP.dadd s10 v300 := ⟨_, rfl⟩
        have mv301 : oMag 1065 v301 := oMAdd (A := 1063) ms10 (Jvm.Free.Fl.Mag64.mono mv300 (by decide)) ev301 (by decide)
        refine oW.dadd (pc' := 302) K at_301 ev301 (oMNN mv301 (by decide)) rfl ?_
        refine oW.dstore (Ls' := #[.val (.int p0), .val (.int p1), .val (.int p2), .val (.int p3), .val (.int p4), .val (.int p5), .val (.int (5 : Int32)), .val (.ref a11), .val (.int r8), .val (.int r9), .val (.int r10), .val (.int r11), .val (.int r12), .val (.int k8), .val (.int k9), .val (.int k10), .val (.int k11), .val (.int k12), .val (.double v301), .second, .unset, .unset, .unset, .unset, .unset]) (pc' := 304) K at_302 rfl rfl ?_
        exact J v301 (⟨oS_n ev296 ev300 ev301 (oR_n hr11 c289) rfl, mv301⟩)
    intro s11 hs11
    obtain ⟨gs11, ms11⟩ := hs11
    refine oW.join (F := fun z : UInt64 => z = oS s11 k12 (4617315517961601024 : UInt64) p5 ∧ oMag 1067 z) (pcj := 321) (Lf := fun z => #[.val (.int p0), .val (.int p1), .val (.int p2), .val (.int p3), .val (.int p4), .val (.int p5), .val (.int (5 : Int32)), .val (.ref a11), .val (.int r8), .val (.int r9), .val (.int r10), .val (.int r11), .val (.int r12), .val (.int k8), .val (.int k9), .val (.int k10), .val (.int k11), .val (.int k12), .val (.double z), .second, .unset, .unset, .unset, .unset, .unset]) (Sf := fun z => []) (dsf := fun z => [(a11, .inl (.int, [(.int p1), (.int p2), (.int p3), (.int p4), (.int p5)]))]) ?_ ?_
    · intro J
      refine oW.iload (pc' := 306) K at_304 rfl rfl ?_
      refine oW.if_eq (pc' := 321) (pc3 := 309) K at_306 (by decide) (by decide) rfl (fun c306 => ?_) (fun c306 => ?_)
      · exact J s11 (⟨oS_z (oR_z hr12 c306), Jvm.Free.Fl.Mag64.mono ms11 (by decide)⟩)
      · refine oW.dload (pc' := 311) K at_309 rfl rfl ?_
        refine oW.iload (pc' := 313) K at_311 rfl rfl ?_
        obtain ⟨v313, ev313⟩ : ∃ z : UInt64, z = FP.i2d k12 := ⟨_, rfl⟩
        have mv313 : oMag 1056 v313 := oMI2D ev313
        refine oW.i2d (pc' := 314) K at_313 ev313 rfl ?_
        refine oW.ldc2D (pc' := 317) K (hw _ (List.mem_of_getElem? (i := 19) rfl)) at_314 rfl ?_
        obtain ⟨v317, ev317⟩ : ∃ z : UInt64, z = FP.ddiv v313 (4617315517961601024 : UInt64) := ⟨_, rfl⟩
        have mv317 : oMag 1055 v317 := oMDiv mv313 (by unfold Big64; decide : Big64 1025 (4617315517961601024 : UInt64)) ev317 (by decide)
        refine oW.ddiv (pc' := 318) K at_317 ev317 (oMNN mv317 (by decide)) rfl ?_
        obtain ⟨v318, ev318⟩ : ∃ z : UInt64, z = FP.dadd s11 v317 := ⟨_, rfl⟩
        have mv318 : oMag 1067 v318 := oMAdd (A := 1065) ms11 (Jvm.Free.Fl.Mag64.mono mv317 (by decide)) ev318 (by decide)
        refine oW.dadd (pc' := 319) K at_318 ev318 (oMNN mv318 (by decide)) rfl ?_
        refine oW.dstore (Ls' := #[.val (.int p0), .val (.int p1), .val (.int p2), .val (.int p3), .val (.int p4), .val (.int p5), .val (.int (5 : Int32)), .val (.ref a11), .val (.int r8), .val (.int r9), .val (.int r10), .val (.int r11), .val (.int r12), .val (.int k8), .val (.int k9), .val (.int k10), .val (.int k11), .val (.int k12), .val (.double v318), .second, .unset, .unset, .unset, .unset, .unset]) (pc' := 321) K at_319 rfl rfl ?_
        exact J v318 (⟨oS_n ev313 ev317 ev318 (oR_n hr12 c306) rfl, mv318⟩)
    intro s12 hs12
    obtain ⟨gs12, ms12⟩ := hs12
    refine oW.join (F := fun z : UInt64 => z = oFin k12 s12 ∧ Jvm.Free.Fl.NoNaN64 z) (pcj := 336) (Lf := fun z => #[.val (.int p0), .val (.int p1), .val (.int p2), .val (.int p3), .val (.int p4), .val (.int p5), .val (.int (5 : Int32)), .val (.ref a11), .val (.int r8), .val (.int r9), .val (.int r10), .val (.int r11), .val (.int r12), .val (.int k8), .val (.int k9), .val (.int k10), .val (.int k11), .val (.int k12), .val (.double s12), .second, .unset, .unset, .unset, .unset, .unset]) (Sf := fun z => [(.double z)]) (dsf := fun z => [(a11, .inl (.int, [(.int p1), (.int p2), (.int p3), (.int p4), (.int p5)]))]) ?_ ?_
    · intro J
      refine oW.iload (pc' := 323) K at_321 rfl rfl ?_
      refine oW.if_le (pc' := 335) (pc3 := 326) K at_323 (by decide) (by decide) rfl (fun c323 => ?_) (fun c323 => ?_)
      · refine oW.dconst0 (pc' := 336) K at_335 rfl ?_
        exact J (0 : UInt64) (⟨oF_n c323, oMNN (by unfold oMag Jvm.Free.Fl.Mag64; decide : oMag 1 (0 : UInt64)) (by decide)⟩)
      · refine oW.dload (pc' := 328) K at_326 rfl rfl ?_
        refine oW.iload (pc' := 330) K at_328 rfl rfl ?_
        obtain ⟨v330, ev330⟩ : ∃ z : UInt64, z = FP.i2d k12 := ⟨_, rfl⟩
        have mv330 : oMag 1056 v330 := oMI2D ev330
        refine oW.i2d (pc' := 331) K at_330 ev330 rfl ?_
        obtain ⟨v331, ev331⟩ : ∃ z : UInt64, z = FP.ddiv s12 v330 := ⟨_, rfl⟩
        have mv331 : oMag 1068 v331 := oMDiv ms12 (oBigI ev330 c323) ev331 (by decide)
        refine oW.ddiv (pc' := 332) K at_331 ev331 (oMNN mv331 (by decide)) rfl ?_
        refine oW.goto (pc' := 336) K at_332 (by decide) (by decide) ?_
        exact J v331 (⟨oF_p ev330 ev331 c323, oMNN mv331 (by decide)⟩)
    intro ex hex
    obtain ⟨gex, nex⟩ := hex
    refine oW.dstore (Ls' := #[.val (.int p0), .val (.int p1), .val (.int p2), .val (.int p3), .val (.int p4), .val (.int p5), .val (.int (5 : Int32)), .val (.ref a11), .val (.int r8), .val (.int r9), .val (.int r10), .val (.int r11), .val (.int r12), .val (.int k8), .val (.int k9), .val (.int k10), .val (.int k11), .val (.int k12), .val (.double s12), .second, .val (.double ex), .second, .unset, .unset, .unset]) (pc' := 338) K at_336 rfl rfl ?_
    refine oW.new (fs := []) (cells' := 2) (slots' := 5) (dsf := fun z => [(a11, .inl (.int, [(.int p1), (.int p2), (.int p3), (.int p4), (.int p5)])), (z, .inr ("com/example/ordevo/ordevo/AveragePrecision", []))]) (pc' := 341) K (hw _ (List.mem_of_getElem? (i := 2) rfl)) (hw _ (List.mem_of_getElem? (i := 3) rfl)) (hw _ (List.mem_of_getElem? (i := 4) rfl)) (oLd_0 hw) at_338 (by decide) (by decide) rfl rfl (fun _ => rfl) rfl ?_
    intro a338 ha338
    refine oW.dup (pc' := 342) K at_341 rfl rfl ?_
    refine oW.callI (a := a338) (argsL := []) (S := [(.ref a338)]) (rm := ({ frames := 1, cells := 0, slots := 0, locals := 12 } : Room)) (W := 1) (cells' := 2) (slots' := 5) (pc' := 345) K rfl (hw _ (List.mem_of_getElem? (i := 5) rfl)) (hw _ (List.mem_of_getElem? (i := 6) rfl)) (hw _ (List.mem_of_getElem? (i := 4) rfl)) (hw _ (List.mem_of_getElem? (i := 7) rfl)) (by decide) (own_init hw a338 _) (lenOf pd_0 rfl) at_342 rfl rfl (Nat.le_of_eq rfl) (by decide) (by decide) (by decide) (by decide) rfl rfl rfl ?_
    rintro _ rfl
    refine oW.aload (pc' := 347) K at_345 rfl rfl rfl ?_
    refine oW.callV (a := a338) (argsL := [(.ref a11)]) (S := []) (rm := ({ frames := 0, cells := 0, slots := 0, locals := 0 } : Room)) (W := 0) (cells' := 2) (slots' := 5) (pc' := 350) K (hw _ (List.mem_of_getElem? (i := 11) rfl)) (hw _ (List.mem_of_getElem? (i := 12) rfl)) (hw _ (List.mem_of_getElem? (i := 14) rfl)) (hw _ (List.mem_of_getElem? (i := 13) rfl)) (hw _ (List.mem_of_getElem? (i := 15) rfl)) (hw _ (List.mem_of_getElem? (i := 4) rfl)) (by decide) (oNF (hw _ (List.mem_of_getElem? (i := 14) rfl))) (fun _ M => oMem.exa (i := 1) rfl M) (own_ev5 hw a338 a11 p1 p2 p3 p4 p5) (lenOf pd_1 rfl) at_347 rfl rfl (Nat.le_of_eq rfl) (by decide) (by decide) (by decide) (by decide) rfl rfl rfl ?_
    rintro _ _ ⟨got, rfl, ⟨ggot, ngot⟩, rfl⟩
    refine oW.dstore (Ls' := #[.val (.int p0), .val (.int p1), .val (.int p2), .val (.int p3), .val (.int p4), .val (.int p5), .val (.int (5 : Int32)), .val (.ref a11), .val (.int r8), .val (.int r9), .val (.int r10), .val (.int r11), .val (.int r12), .val (.int k8), .val (.int k9), .val (.int k10), .val (.int k11), .val (.int k12), .val (.double s12), .second, .val (.double ex), .second, .val (.double got), .second, .unset]) (pc' := 352) K at_350 rfl rfl ?_
    refine oW.iload (pc' := 354) K at_352 rfl rfl ?_
    refine oW.iconst (v := (1 : Int32)) (pc' := 355) K at_354 (by decide) rfl ?_
    refine oW.icmp_lt (pc' := 366) (pc3 := 358) K at_355 (by decide) (by decide) rfl (fun q => absurd q (by decide)) (fun _ => ?_)
    refine oW.aload (pc' := 360) K at_358 rfl rfl rfl ?_
    refine oW.iconst (v := (0 : Int32)) (pc' := 361) K at_360 (by decide) rfl ?_
    refine oW.iaload (i := 0) (k := 0) (pc' := 362) K at_361 rfl rfl (by decide) rfl rfl ?_
    refine oW.iloadN (pc' := 363) K at_362 rfl rfl ?_
    refine oW.icmp_ne (pc' := 428) (pc3 := 366) K at_363 (by decide) (by decide) rfl (fun q => absurd rfl q) (fun c363 => ?_)
    refine oW.iload (pc' := 368) K at_366 rfl rfl ?_
    refine oW.iconst (v := (2 : Int32)) (pc' := 369) K at_368 (by decide) rfl ?_
    refine oW.icmp_lt (pc' := 380) (pc3 := 372) K at_369 (by decide) (by decide) rfl (fun q => absurd q (by decide)) (fun _ => ?_)
    refine oW.aload (pc' := 374) K at_372 rfl rfl rfl ?_
    refine oW.iconst (v := (1 : Int32)) (pc' := 375) K at_374 (by decide) rfl ?_
    refine oW.iaload (i := 0) (k := 1) (pc' := 376) K at_375 rfl rfl (by decide) rfl rfl ?_
    refine oW.iloadN (pc' := 377) K at_376 rfl rfl ?_
    refine oW.icmp_ne (pc' := 428) (pc3 := 380) K at_377 (by decide) (by decide) rfl (fun q => absurd rfl q) (fun c377 => ?_)
    refine oW.iload (pc' := 382) K at_380 rfl rfl ?_
    refine oW.iconst (v := (3 : Int32)) (pc' := 383) K at_382 (by decide) rfl ?_
    refine oW.icmp_lt (pc' := 394) (pc3 := 386) K at_383 (by decide) (by decide) rfl (fun q => absurd q (by decide)) (fun _ => ?_)
    refine oW.aload (pc' := 388) K at_386 rfl rfl rfl ?_
    refine oW.iconst (v := (2 : Int32)) (pc' := 389) K at_388 (by decide) rfl ?_
    refine oW.iaload (i := 0) (k := 2) (pc' := 390) K at_389 rfl rfl (by decide) rfl rfl ?_
    refine oW.iloadN (pc' := 391) K at_390 rfl rfl ?_
    refine oW.icmp_ne (pc' := 428) (pc3 := 394) K at_391 (by decide) (by decide) rfl (fun q => absurd rfl q) (fun c391 => ?_)
    refine oW.iload (pc' := 396) K at_394 rfl rfl ?_
    refine oW.iconst (v := (4 : Int32)) (pc' := 397) K at_396 (by decide) rfl ?_
    refine oW.icmp_lt (pc' := 409) (pc3 := 400) K at_397 (by decide) (by decide) rfl (fun q => absurd q (by decide)) (fun _ => ?_)
    refine oW.aload (pc' := 402) K at_400 rfl rfl rfl ?_
    refine oW.iconst (v := (3 : Int32)) (pc' := 403) K at_402 (by decide) rfl ?_
    refine oW.iaload (i := 0) (k := 3) (pc' := 404) K at_403 rfl rfl (by decide) rfl rfl ?_
    refine oW.iload (pc' := 406) K at_404 rfl rfl ?_
    refine oW.icmp_ne (pc' := 428) (pc3 := 409) K at_406 (by decide) (by decide) rfl (fun q => absurd rfl q) (fun c406 => ?_)
    refine oW.iload (pc' := 411) K at_409 rfl rfl ?_
    refine oW.iconst (v := (5 : Int32)) (pc' := 412) K at_411 (by decide) rfl ?_
    refine oW.icmp_lt (pc' := 424) (pc3 := 415) K at_412 (by decide) (by decide) rfl (fun q => absurd q (by decide)) (fun _ => ?_)
    refine oW.aload (pc' := 417) K at_415 rfl rfl rfl ?_
    refine oW.iconst (v := (4 : Int32)) (pc' := 418) K at_417 (by decide) rfl ?_
    refine oW.iaload (i := 0) (k := 4) (pc' := 419) K at_418 rfl rfl (by decide) rfl rfl ?_
    refine oW.iload (pc' := 421) K at_419 rfl rfl ?_
    refine oW.icmp_ne (pc' := 428) (pc3 := 424) K at_421 (by decide) (by decide) rfl (fun q => absurd rfl q) (fun c421 => ?_)
    refine oW.iconst (v := (1 : Int32)) (pc' := 425) K at_424 (by decide) rfl ?_
    refine oW.goto (pc' := 429) K at_425 (by decide) (by decide) ?_
    refine oW.istore (Ls' := #[.val (.int p0), .val (.int p1), .val (.int p2), .val (.int p3), .val (.int p4), .val (.int p5), .val (.int (5 : Int32)), .val (.ref a11), .val (.int r8), .val (.int r9), .val (.int r10), .val (.int r11), .val (.int r12), .val (.int k8), .val (.int k9), .val (.int k10), .val (.int k11), .val (.int k12), .val (.double s12), .second, .val (.double ex), .second, .val (.double got), .second, .val (.int (1 : Int32))]) (pc' := 431) K at_429 rfl rfl ?_
    refine oW.dload (pc' := 433) K at_431 rfl rfl ?_
    refine oW.dload (pc' := 435) K at_433 rfl rfl ?_
    obtain ⟨v435, ev435⟩ : ∃ z : Int32, z = cmpValue (FP.dcmp got ex) .l := ⟨_, rfl⟩
    refine oW.dcmp (pc' := 436) K at_435 ev435 rfl ?_
    refine oW.if_ne (pc' := 448) (pc3 := 439) K at_436 (by decide) (by decide) rfl (fun q => absurd (oSame ev435 (by rw [ggot, gex]; subst_vars; simp only [Int32.add_zero]) ngot) q) (fun c436 => ?_)
    refine oW.iload (pc' := 441) K at_439 rfl rfl ?_
    refine oW.if_eq (pc' := 448) (pc3 := 444) K at_441 (by decide) (by decide) rfl (fun q => absurd q (by decide)) (fun _ => ?_)
    refine oW.iconst (v := (1 : Int32)) (pc' := 445) K at_444 (by decide) rfl ?_
    refine oW.goto (pc' := 449) K at_445 (by decide) (by decide) ?_
    exact oW.retB K rfl at_449 (by decide) (by decide) ⟨_, rfl, rfl⟩
set_option maxRecDepth 65536 in
set_option maxHeartbeats 40000000 in
theorem comes_1 {Post : Tables → Env → Array Value → State → Outcome → State → Prop} (hpost : ∀ tb e args s v u, (limb_1_1.after args s (.returned v) u = true ∧ limb_1_2.after args s (.returned v) u = true ∧ True) → FrameEnd s (.returned v) u (Jvm.fieldLocs frame_1_writes args s ++ Jvm.arrayLocs frame_1_arrays args s ++ Jvm.staticLocs frame_1_statics s) 16 128 → Post tb e args s (.returned v) u) :
    ArmFor flags0 classFile x code maxLocals ret World_1 tables_1 room_1 Calls_1 rest_1 Pre_1 Post := by
  intro l hfl _ _ p e ha hc hk s m args below hf hA hF happ hP
  obtain ⟨hcalls, hrest, hpre⟩ := hP
  obtain ⟨-, -, -, hnamed, -, -, -, hat⟩ := (Spec.applies_iff hf).mp happ
  obtain ⟨hg, hn⟩ := and_e (Cond.before_iff.mp (show (Jvm.Cond.and given_1 narrow_1).before args s = true from hpre))
  obtain ⟨hcount, g0⟩ := and_e hg
  obtain ⟨k0, g1⟩ := and_e g0
  obtain ⟨k1, g2⟩ := and_e g1
  obtain ⟨k2, g3⟩ := and_e g2
  obtain ⟨k3, g4⟩ := and_e g3
  obtain ⟨k4, g5⟩ := and_e g4
  obtain ⟨w0, w1, w2, w3, w4, w5, rfl⟩ : ∃ w0 w1 w2 w3 w4 w5 : Value, args = #[w0, w1, w2, w3, w4, w5] := by
    have hs : args.size = 6 := by simpa [Cond.value, given_1] using hcount
    obtain ⟨L⟩ := args
    match L, hs with
    | [w0, w1, w2, w3, w4, w5], _ => exact ⟨w0, w1, w2, w3, w4, w5, rfl⟩
  have hw := fun d (hd : d ∈ tables_1) => atoms_spec (ws := Jvm.Cond.code x code maxLocals ret :: tables_1) hat d (List.mem_cons_of_mem _ hd)
  obtain ⟨i0, ei0⟩ := is_v k0
  obtain rfl : w0 = (.int i0) := Option.some.inj ei0
  obtain ⟨i1, ei1⟩ := is_v k1
  obtain rfl : w1 = (.int i1) := Option.some.inj ei1
  obtain ⟨i2, ei2⟩ := is_v k2
  obtain rfl : w2 = (.int i2) := Option.some.inj ei2
  obtain ⟨i3, ei3⟩ := is_v k3
  obtain rfl : w3 = (.int i3) := Option.some.inj ei3
  obtain ⟨i4, ei4⟩ := is_v k4
  obtain rfl : w4 = (.int i4) := Option.some.inj ei4
  obtain ⟨i5, ei5⟩ := is_v g5
  obtain rfl : w5 = (.int i5) := Option.some.inj ei5
  obtain ⟨n, o, h1, h2, h3, _, L, rfl, ⟨N, _, ⟨_, rfl, rfl⟩, _⟩, hq⟩ := (own_law (l := l) (h0 := s.heap) hw i0 i1 i2 i3 i4 i5) s.heap (oMem.start s s.heap) p e ha hc hk s m _ below hf ((Spec.applies_iff_loose hf).mp happ).1 ⟨rfl, State.Warmed39.refl s, rfl⟩ trivial
  refine ⟨n, _, h1, h2, h3, hpost _ _ _ _ _ _ ⟨Cond.after_iff.mpr rfl, Cond.after_iff.mpr (eq_i res_at (Term.int_eval (1)) rfl), trivial⟩ ⟨hq.1, hq.2.1, (hq.2.2.sift fun y hy => Or.inr (N y hy)).mono (by decide) (by decide)⟩⟩
theorem main_1_1 : Claimed_1_1 := comes_1 fun _ _ _ _ _ _ h hF => ⟨h.1, hF⟩
theorem main_1_2 : Claimed_1_2 := comes_1 fun _ _ _ _ _ _ h hF => ⟨h.2.1, hF⟩
end Jvm.Pilot.@@N@@
namespace Jvm.Pilot.@@N@@
open Jvm Jvm.ClassFile Sem Op Lib Jvm.Free Jvm.Stand Jvm.Pilot.@@N@@.Jvm.D
/-! MADE BY PROGRAM (witnessworld.py) out of the Statement's table words and the real class files: 11 classes; the members and pool entries that the words name. The judged class is class 1, her method 1. -/
namespace start1
open Jvm.ClassFile
def u (s : String) : CpInfo := .utf8 (stringToUtf16 s)
/-- a pool by its gaps: so many unusable entries, then the entry; so many at the end -/
def gap : Nat → List CpInfo → List CpInfo
  | 0, r => r
  | n + 1, r => .unusable :: gap n r
def poolList (es : List (Nat × CpInfo)) (last : Nat) : List CpInfo := es.foldr (fun e r => gap e.1 (e.2 :: r)) (gap last [])
def pool (es : List (Nat × CpInfo)) (last : Nat) : Array CpInfo := ⟨poolList es last⟩
def fileOf (pool : Array CpInfo) (this : Nat) (attrs : Array Attribute := #[]) (ms : Array MethodInfo := #[]) (fl : Nat := 33) (sup : Nat := 0) (ifs : Array Nat := #[]) (fds : Array FieldInfo := #[]) : ClassFile where
  minorVersion := 0
  majorVersion := 65
  constantPool := pool
  accessFlags := fl
  thisClass := this
  superClass := sup
  interfaces := ifs
  fields := fds
  methods := ms
  attributes := attrs
def plain (name : String) (sup : Option ClassId) : Class where
  name := name
  kind := .ordinary
  loader := none
  accessFlags := 33
  super := sup
  interfaces := #[]
  cf := none
  fields := #[]
  methods := #[]
  instanceTypes := #[]
  staticTypes := #[]
  resolved := #[]
  callSites := []
  init := .initialized
  statics := none
  mirror := none

def pool0 : Array CpInfo := pool [(5, u "<init>"), (0, u "()V"), (1, .class_ 10), (1, u "java/lang/Object")] 113

def k0c0 : Code := { maxStack := 0, maxLocals := 1, code := object_method_1_code, exceptionTable := #[], attributes := #[] }
def k0m0 : Method := { name := "<init>", desc := "()V", sig := { parameters := [], returnType := none }, accessFlags := 1, code := some k0c0 }
/-- java/lang/Object -/
def k0 : Class := { plain "java/lang/Object" none with
  accessFlags := 33
  interfaces := #[]
  cf := some (fileOf pool0 8 #[] #[{ accessFlags := 1, nameIndex := 5, descriptorIndex := 6, attributes := #[] }] 33 0 #[] #[])
  fields := #[]
  methods := #[k0m0]
  instanceTypes := #[]
  staticTypes := #[]
  resolved := Array.replicate 124 none
  statics := none }

def pool1 : Array CpInfo := pool [(2, .class_ 4), (0, .nameAndType 5 6), (0, u "java/lang/Object"), (0, u "<init>"), (0, u "()V"), (0, .integer 2147483647), (0, .double 4611686018427387904), (1, .double 4613937818241073152), (1, .double 4616189618054758400), (1, .double 4617315517961601024), (1, .class_ 17), (0, u "com/example/ordevo/ordevo/AveragePrecision"), (0, .methodref 16 3), (0, .methodref 16 20), (0, .nameAndType 21 22), (0, u "evaluate"), (0, u "([I)D"), (0, .class_ 24), (0, u "com/example/ordevo/ordevo/AveragePrecisionEvaluatePinLaw"), (2, u "law"), (0, u "(IIIIII)Z")] 5

def k1m0 : Method := { name := "<init>", desc := "()V", sig := { parameters := [], returnType := none }, accessFlags := 2, code := none }
def k1c1 : Code := { maxStack := 6, maxLocals := 25, code := code, exceptionTable := #[], attributes := #[] }
def k1m1 : Method := { name := "law", desc := "(IIIIII)Z", sig := { parameters := [.int, .int, .int, .int, .int, .int], returnType := some .boolean }, accessFlags := 9, code := some k1c1 }
/-- com/example/ordevo/ordevo/AveragePrecisionEvaluatePinLaw -/
def k1 : Class := { plain "com/example/ordevo/ordevo/AveragePrecisionEvaluatePinLaw" (some 0) with
  accessFlags := 49
  interfaces := #[]
  cf := some (fileOf pool1 23 #[] #[{ accessFlags := 2, nameIndex := 5, descriptorIndex := 6, attributes := #[] }, { accessFlags := 9, nameIndex := 27, descriptorIndex := 28, attributes := #[] }] 49 2 #[] #[])
  fields := #[]
  methods := #[k1m0, k1m1]
  instanceTypes := #[]
  staticTypes := #[]
  resolved := Array.replicate 34 none
  statics := none }

def pool2 : Array CpInfo := pool [(6, .class_ 8), (1, u "com/example/ordevo/ordevo/Metric"), (82, .class_ 92), (0, u "java/lang/Object"), (0, u "NAMES"), (0, u "Ljava/lang/String;")] 30

/-- com/example/ordevo/ordevo/Metric -/
def k2 : Class := { plain "com/example/ordevo/ordevo/Metric" (some 0) with
  accessFlags := 1537
  interfaces := #[]
  cf := some (fileOf pool2 6 #[] #[] 1537 91 #[] #[{ accessFlags := 25, nameIndex := 93, descriptorIndex := 94, attributes := #[] }])
  fields := #[{ name := "NAMES", type := (.object "java/lang/String"), accessFlags := 25, slot := 0, constantValue := 0 }]
  methods := #[]
  instanceTypes := #[]
  staticTypes := #[(.object "java/lang/String")]
  resolved := Array.replicate 125 none
  statics := none }

def pool3 : Array CpInfo := pool [(2, .class_ 4), (1, u "com/example/ordevo/ordevo/RankingMetric"), (2, .class_ 8), (0, u "java/lang/Object"), (0, .class_ 10), (0, u "com/example/ordevo/ordevo/Metric")] 5

/-- com/example/ordevo/ordevo/RankingMetric -/
def k3 : Class := { plain "com/example/ordevo/ordevo/RankingMetric" (some 0) with
  accessFlags := 1537
  interfaces := #[2]
  cf := some (fileOf pool3 2 #[] #[] 1537 7 #[9] #[])
  fields := #[]
  methods := #[]
  instanceTypes := #[]
  staticTypes := #[]
  resolved := Array.replicate 16 none
  statics := none }

def pool4 : Array CpInfo := pool [(1, .methodref 2 3), (0, .class_ 4), (0, .nameAndType 5 6), (0, u "java/lang/Object"), (0, u "<init>"), (0, u "()V"), (0, .class_ 8), (0, u "com/example/ordevo/ordevo/AveragePrecision"), (0, .class_ 10), (0, u "com/example/ordevo/ordevo/RankingMetric"), (2, u "evaluate"), (0, u "([I)D")] 3

def k4c0 : Code := { maxStack := 1, maxLocals := 1, code := prog_1_method_1_code, exceptionTable := #[], attributes := #[] }
def k4m0 : Method := { name := "<init>", desc := "()V", sig := { parameters := [], returnType := none }, accessFlags := 1, code := some k4c0 }
def k4c1 : Code := { maxStack := 6, maxLocals := 6, code := prog_1_method_2_code, exceptionTable := #[], attributes := #[] }
def k4m1 : Method := { name := "evaluate", desc := "([I)D", sig := { parameters := [(.array .int)], returnType := some .double }, accessFlags := 1, code := some k4c1 }
/-- com/example/ordevo/ordevo/AveragePrecision -/
def k4 : Class := { plain "com/example/ordevo/ordevo/AveragePrecision" (some 0) with
  accessFlags := 49
  interfaces := #[3]
  cf := some (fileOf pool4 7 #[] #[{ accessFlags := 1, nameIndex := 5, descriptorIndex := 6, attributes := #[] }, { accessFlags := 1, nameIndex := 13, descriptorIndex := 14, attributes := #[] }] 49 2 #[9] #[])
  fields := #[]
  methods := #[k4m0, k4m1]
  instanceTypes := #[]
  staticTypes := #[]
  resolved := Array.replicate 18 none
  statics := none }

def pool5 : Array CpInfo := pool [(1, u "java/lang/Cloneable"), (0, .class_ 1), (0, u "java/lang/Object"), (0, .class_ 3)] 3

/-- java/lang/Cloneable -/
def k5 : Class := { plain "java/lang/Cloneable" (some 0) with
  accessFlags := 1537
  interfaces := #[]
  cf := some (fileOf pool5 2 #[] #[] 1537 4 #[] #[])
  fields := #[]
  methods := #[]
  instanceTypes := #[]
  staticTypes := #[]
  resolved := Array.replicate 8 none
  statics := none }

def pool6 : Array CpInfo := pool [(1, u "java/io/Serializable"), (0, .class_ 1), (0, u "java/lang/Object"), (0, .class_ 3)] 3

/-- java/io/Serializable -/
def k6 : Class := { plain "java/io/Serializable" (some 0) with
  accessFlags := 1537
  interfaces := #[]
  cf := some (fileOf pool6 2 #[] #[] 1537 4 #[] #[])
  fields := #[]
  methods := #[]
  instanceTypes := #[]
  staticTypes := #[]
  resolved := Array.replicate 8 none
  statics := none }

/-- the primitive byte -/
def k7 : Class := { plain "byte" none with kind := .primitive 'B', accessFlags := 0x411 }
/-- [B -/
def k8 : Class := { plain "[B" (some 0) with kind := .array 7 .byte, interfaces := #[5, 6], accessFlags := 1041 }

/-- the primitive int -/
def k9 : Class := { plain "int" none with kind := .primitive 'I', accessFlags := 0x411 }
/-- [I -/
def k10 : Class := { plain "[I" (some 0) with kind := .array 9 .int, interfaces := #[5, 6], accessFlags := 1041 }

def heap : Heap := #[]
def classes : Array Class := #[k0, k1, k2, k3, k4, k5, k6, k7, k8, k9, k10]
def interned : List (Array UInt16 × Addr) := []
def slotsUsed : Nat := 0
def theMethod : MethodId := ⟨1, 1⟩
def args0 : Array Value := #[.int 3, .int 4, .int 5, .int 6, .int 7, .int 8]
def aboutOver (below : List Frame) : State where
  vm := { classes := classes, interned := interned.toArray }
  heap := heap
  slotsUsed := slotsUsed
  threads := #[{ frames := .invoking theMethod args0 :: below }]
def below0 : List Frame := [.native { method := ⟨0, 0⟩, args := #[] }]
def about1 : State := aboutOver below0
def p0 : Program := .bare "" "" ""
def e0 : Env := launch0.env 0 0 0
theorem w_frames : about1.frames = Frame.invoking theMethod args0 :: below0 := rfl
set_option maxRecDepth 65536 in
theorem w_args : argsFit about1.vm theMethod args0 = true := by decide +kernel
set_option maxRecDepth 65536 in
theorem w_heap : heapFits about1 = true := by decide +kernel
set_option maxRecDepth 65536 in
theorem w_runnable : about1.curStatus? = some .runnable := by decide +kernel
set_option maxRecDepth 65536 in
theorem w_alone : about1.alone = true := by decide +kernel
set_option maxRecDepth 65536 in
theorem w_named : about1.methodNamed? x = some theMethod := by decide +kernel
set_option maxRecDepth 65536 in
theorem w_hears : about1.hears theMethod below0 = true := by decide +kernel
set_option maxRecDepth 65536 in
theorem w_ripe : about1.ripe theMethod args0 below0 = true := by decide +kernel
theorem w_running : about1.status = .running := rfl
set_option maxRecDepth 65536 in
theorem w_room : about1.hasRoom e0.platform room_1 = true :=
  launch0.hasRoom_least _ room_1 (by decide +kernel) (by decide +kernel) (by decide +kernel) (by decide +kernel) (by decide +kernel) (by decide +kernel)
theorem allAtoms_all (ts : List Jvm.Cond) (a : Array Jvm.Value) (st : Jvm.State) : (allAtoms ts).before a st = ts.all (fun c => c.before a st) := by
  induction ts with
  | nil => rfl
  | cons c t ih =>
    show (Jvm.Cond.and c (allAtoms t)).before a st = _
    rw [Jvm.Cond.before_and, ih, List.all_cons]
def words1 : List Jvm.Cond := Jvm.Cond.code x code maxLocals ret :: tables_1
/-- a 'code' word, met by the world's own term for the bytes: nothing is compared byte by byte -/
theorem code_word {y : MethodName} {bytes : ByteArray} {mx : Nat} {rt : Option FieldType} {a : Array Value} {s : State} {m : MethodId} {meth : Method} {c : Code} (h1 : s.methodNamed? y = some m) (h2 : s.vm.method? m = some meth) (h3 : meth.code = some c) (h4 : c.code = bytes)
    (h5 : (c.maxLocals == mx && c.exceptionTable.isEmpty && decide (c.maxStack ≤ mostOperands) && decide (meth.sig.returnType = rt) && !meth.locks && decide (parseMethodDescriptor y.desc = some meth.sig)) = true) : (Jvm.Cond.code y bytes mx rt).before a s = true := by
  simp only [Bool.and_eq_true, beq_iff_eq, Bool.not_eq_true', decide_eq_true_eq] at h5
  obtain ⟨⟨⟨⟨⟨g1, g2⟩, g3⟩, g4⟩, g5⟩, g6⟩ := h5
  simp [Cond.before, Cond.holds, Cond.value, h1, h2, h3, h4, g1, g2, g3, g4, g5, g6]
def isCode : Jvm.Cond → Bool
  | .code _ _ _ _ => true
  | _ => false
theorem all_split {L : List Jvm.Cond} {P : Jvm.Cond → Bool} (h1 : L.all (fun c => isCode c || P c) = true) (h2 : ∀ c ∈ L.filter isCode, P c = true) : L.all P = true := by
  refine List.all_eq_true.mpr fun c hc => ?_
  have h := List.all_eq_true.mp h1 c hc
  rcases Bool.eq_false_or_eq_true (isCode c) with hi | hi
  · exact h2 c (List.mem_filter.mpr ⟨hc, hi⟩)
  · simpa [hi] using h
set_option maxRecDepth 65536 in
theorem w_c0 : (Jvm.Cond.code x code maxLocals ret).before args0 about1 = true := code_word (m := ⟨1, 1⟩) (meth := k1m1) (c := k1c1) (by decide +kernel) rfl rfl rfl (by decide +kernel)
set_option maxRecDepth 65536 in
theorem w_c1 : (Jvm.Cond.code ({ cls := "com/example/ordevo/ordevo/AveragePrecision", name := "<init>", desc := "()V" } : Jvm.MethodName) prog_1_method_1_code (1 : Nat) (Option.none : Option Jvm.ClassFile.FieldType)).before args0 about1 = true := code_word (m := ⟨4, 0⟩) (meth := k4m0) (c := k4c0) (by decide +kernel) rfl rfl rfl (by decide +kernel)
set_option maxRecDepth 65536 in
theorem w_c2 : (Jvm.Cond.code ({ cls := "java/lang/Object", name := "<init>", desc := "()V" } : Jvm.MethodName) object_method_1_code (1 : Nat) (Option.none : Option Jvm.ClassFile.FieldType)).before args0 about1 = true := code_word (m := ⟨0, 0⟩) (meth := k0m0) (c := k0c0) (by decide +kernel) rfl rfl rfl (by decide +kernel)
set_option maxRecDepth 65536 in
theorem w_c3 : (Jvm.Cond.code ({ cls := "com/example/ordevo/ordevo/AveragePrecision", name := "evaluate", desc := "([I)D" } : Jvm.MethodName) prog_1_method_2_code (6 : Nat) (Option.some Jvm.ClassFile.FieldType.double)).before args0 about1 = true := code_word (m := ⟨4, 1⟩) (meth := k4m1) (c := k4c1) (by decide +kernel) rfl rfl rfl (by decide +kernel)
def codes1 : List Jvm.Cond := [Jvm.Cond.code x code maxLocals ret, Jvm.Cond.code ({ cls := "com/example/ordevo/ordevo/AveragePrecision", name := "<init>", desc := "()V" } : Jvm.MethodName) prog_1_method_1_code (1 : Nat) (Option.none : Option Jvm.ClassFile.FieldType), Jvm.Cond.code ({ cls := "java/lang/Object", name := "<init>", desc := "()V" } : Jvm.MethodName) object_method_1_code (1 : Nat) (Option.none : Option Jvm.ClassFile.FieldType), Jvm.Cond.code ({ cls := "com/example/ordevo/ordevo/AveragePrecision", name := "evaluate", desc := "([I)D" } : Jvm.MethodName) prog_1_method_2_code (6 : Nat) (Option.some Jvm.ClassFile.FieldType.double)]
set_option maxRecDepth 65536 in
theorem codes_eq : words1.filter isCode = codes1 := rfl
theorem w_codes : ∀ c ∈ words1.filter isCode, c.before args0 about1 = true := by
  rw [codes_eq]
  intro c hc
  simp only [codes1, List.mem_cons, List.not_mem_nil, or_false] at hc
  rcases hc with rfl | rfl | rfl | rfl
  · exact w_c0
  · exact w_c1
  · exact w_c2
  · exact w_c3
set_option maxRecDepth 65536 in
theorem w_t1 : words1.all (fun c => isCode c || c.before args0 about1) = true := by decide +kernel
theorem w_tables : (allAtoms (Jvm.Cond.code x code maxLocals ret :: tables_1)).before args0 about1 = true := by
  rw [allAtoms_all]
  show words1.all (fun c => c.before args0 about1) = true
  refine all_split ?_ w_codes
  rw [w_t1]
set_option maxRecDepth 65536 in
theorem w_case : (Jvm.Cond.and given_1 narrow_1).before args0 about1 = true := by decide +kernel
theorem w_applies : (headSpec (Jvm.Cond.code x code maxLocals ret :: tables_1) room_1).applies x e0.platform about1 = true :=
  (Spec.applies_iff w_frames).mpr ⟨w_running, w_runnable, w_alone, w_named, w_hears, w_ripe, w_room, w_tables⟩
theorem atStart : AtStart classFile x code maxLocals ret World_1 tables_1 room_1 Calls_1 rest_1 Pre_1 launch0 p0 e0 about1 theMethod args0 below0 :=
  ⟨lists_1, trivial, launch0.admits_env _ _ _, launch0.least_env, fairChoices_fair.cas, fairChoices_fair.clock, w_frames, w_args, w_heap, w_applies, trivial, trivial, w_case⟩
end start1
theorem witness_1 : WitnessClaimed_1 := ⟨start1.p0, start1.e0, start1.about1, start1.theMethod, start1.args0, start1.below0, start1.atStart⟩
end Jvm.Pilot.@@N@@
