import JvmDerived
import JvmDerived.Pilot.@@N@@Statement
import JvmDerived.Pilot.@@N@@Code
set_option linter.unusedVariables false
set_option linter.unusedSimpArgs false
namespace Jvm.Pilot.@@N@@
open Jvm Jvm.ClassFile Sem Op Lib Jvm.Free Jvm.Stand Jvm.LawKit Jvm.RoadKit Bundle Jvm.Pilot.@@N@@.Jvm.D
/-! OWN PRELUDE. What the walk knows of the objects that it made: a list of (address, what stands there): an array with its components, or an object with its fields. -/
abbrev oDsc : Type := Sum (FieldType × List Value) (String × List (String × String × String × Value))
abbrev oDs : Type := List (Addr × oDsc)
def oAt (Z : State) (h : Heap) (a : Addr) (d : oDsc) : Prop := match d with
  | .inl (ty, vs) => ∃ c : Cell, Arr Z h a c ty ∧ c.slots = vs.toArray
  | .inr (C, fs) => Exa Z h a C ∧ ∀ f ∈ fs, Fld Z h a f.1 f.2.1 f.2.2.1 f.2.2.2
def oMem (Z : State) (h0 h : Heap) (ds : oDs) : Prop :=
  Ext h0 h ∧ (∀ (i j : Nat) (x y : Addr × oDsc), i < j → ds[i]? = some x → ds[j]? = some y → x.1 < y.1) ∧ ∀ (i : Nat) (x : Addr × oDsc), ds[i]? = some x → h0.size ≤ x.1 ∧ oAt Z h x.1 x.2
theorem oExt_refl (h : Heap) : Ext h h := ⟨Nat.le_refl _, fun _ _ q => q⟩
theorem oMem.start (Z : State) (h : Heap) : oMem Z h h [] := ⟨oExt_refl h, fun _ _ _ _ _ q => by simp at q, fun _ _ q => by simp at q⟩
theorem oAt.lt {Z : State} {h : Heap} {a : Addr} {d : oDsc} (A : oAt Z h a d) : a < h.size := by
  rcases d with ⟨ty, vs⟩ | ⟨C, fs⟩
  · obtain ⟨c, A, -⟩ := A; exact A.lt
  · exact A.1.lt
theorem oAt.ext {Z : State} {h h' : Heap} {a : Addr} {d : oDsc} (A : oAt Z h a d) (E : Ext h h') : oAt Z h' a d := by
  rcases d with ⟨ty, vs⟩ | ⟨C, fs⟩
  · obtain ⟨c, A, q⟩ := A; exact ⟨c, A.ext E, q⟩
  · exact ⟨A.1.ext E, fun f hf => (A.2 f hf).ext E⟩
theorem oAt.other {Z : State} {h h' : Heap} {a b : Addr} {sl : Nat} {v : Value} {d : oDsc} (A : oAt Z h b d) (W : Wr h h' a sl v) (q : b ≠ a) : oAt Z h' b d := by
  rcases d with ⟨ty, vs⟩ | ⟨C, fs⟩
  · obtain ⟨c, A, r⟩ := A; exact ⟨c, A.other W q, r⟩
  · exact ⟨A.1.wr W, fun f hf => (A.2 f hf).other W (Or.inl q)⟩
theorem oMem.push {Z : State} {h0 h h' : Heap} {ds : oDs} {d : oDsc} (M : oMem Z h0 h ds) (E : Ext h h') (A : oAt Z h' h.size d) : oMem Z h0 h' (ds ++ [(h.size, d)]) := by
  obtain ⟨M1, M2, M3⟩ := M
  refine ⟨⟨Nat.le_trans M1.1 E.1, fun a c q => E.2 a c (M1.2 a c q)⟩, fun i j x y hij hi hj => ?_, fun i x hi => ?_⟩
  · rw [List.getElem?_append] at hi hj
    split at hj
    · rw [if_pos (by omega)] at hi; exact M2 i j x y hij hi hj
    · rename_i nj
      have hjl : j - ds.length = 0 := by
        rcases Nat.eq_zero_or_pos (j - ds.length) with q | q
        · exact q
        · rw [List.getElem?_eq_none (by simp; omega)] at hj; cases hj
      rw [hjl] at hj; cases hj
      rw [if_pos (by omega)] at hi
      exact (M3 i x hi).2.lt
  · rw [List.getElem?_append] at hi
    split at hi
    · exact ⟨(M3 i x hi).1, (M3 i x hi).2.ext E⟩
    · rename_i ni
      have hil : i - ds.length = 0 := by
        rcases Nat.eq_zero_or_pos (i - ds.length) with q | q
        · exact q
        · rw [List.getElem?_eq_none (by simp; omega)] at hi; cases hi
      rw [hil] at hi; cases hi
      exact ⟨M1.1, A⟩
theorem oMem.put {Z : State} {h0 h h' : Heap} {ds : oDs} {i : Nat} {a : Addr} {d d' : oDsc} {sl : Nat} {v : Value} (M : oMem Z h0 h ds) (hi : ds[i]? = some (a, d)) (W : Wr h h' a sl v) (A : oAt Z h' a d') : oMem Z h0 h' (ds.set i (a, d')) := by
  obtain ⟨M1, M2, M3⟩ := M
  have ha := (M3 i _ hi).1
  have hlt : i < ds.length := (List.getElem?_eq_some_iff.mp hi).1
  have fst : ∀ (j : Nat) (x : Addr × oDsc), (ds.set i (a, d'))[j]? = some x → ∃ y : Addr × oDsc, ds[j]? = some y ∧ y.1 = x.1 := fun j x hx => by
    rw [List.getElem?_set] at hx
    split at hx
    · rename_i e; subst e; cases hx; exact ⟨_, hi, rfl⟩
    · exact ⟨x, hx, rfl⟩
  refine ⟨⟨Nat.le_trans M1.1 (Nat.le_of_eq W.size.symm), fun x c q => ?_⟩, fun j k x y hjk hj hk => ?_, fun j x hx => ?_⟩
  · obtain ⟨c', q1, -, -, -, q5, -⟩ := wr_at W (M1.2 x c q)
    have : x ≠ a := Nat.ne_of_lt (Nat.lt_of_lt_of_le (Array.getElem?_eq_some_iff.mp q).1 ha)
    rw [← q5 this]; exact q1
  · obtain ⟨x', hx', ex⟩ := fst j x hj
    obtain ⟨y', hy', ey⟩ := fst k y hk
    rw [← ex, ← ey]; exact M2 j k x' y' hjk hx' hy'
  · rw [List.getElem?_set] at hx
    split at hx
    · rename_i e; subst e; cases hx; exact ⟨ha, A⟩
    · rename_i e
      refine ⟨(M3 j x hx).1, (M3 j x hx).2.other W fun q => ?_⟩
      rcases Nat.lt_or_gt_of_ne e with r | r
      · have := M2 i j _ _ r hi hx; rw [q] at this; exact Nat.lt_irrefl _ this
      · have := M2 j i _ _ r hx hi; rw [q] at this; exact Nat.lt_irrefl _ this
/-- the fields' places are unlike -/
def oApart (Z : State) (fs : List (String × String × String × Value)) : Prop :=
  ∀ (i j : Nat) (f g : String × String × String × Value), i ≠ j → fs[i]? = some f → fs[j]? = some g → Jvm.RoadKit.slotOf Z f.1 f.2.1 f.2.2.1 ≠ Jvm.RoadKit.slotOf Z g.1 g.2.1 g.2.2.1
theorem oApart.of {Z : State} {a0 : Array Value} {C : String} {fs : List (String × String × String × Value)} (hL : ∀ f ∈ fs, Laid Z a0 C f.1 f.2.1 f.2.2.1 ∧ ∃ t, parseFieldDescriptor f.2.2.1 = some t) (hn : (fs.map fun f => f.2.1).Nodup) : oApart Z fs := fun i j f g hij hi hj => by
  obtain ⟨L1, t1, p1⟩ := hL f (List.mem_of_getElem? hi)
  obtain ⟨L2, t2, p2⟩ := hL g (List.mem_of_getElem? hj)
  refine slot_ne L1 L2 (fun q => hij ?_) p1 p2
  have e1 : (fs.map fun f => f.2.1)[i]? = some f.2.1 := by rw [List.getElem?_map, hi]; rfl
  have e2 : (fs.map fun f => f.2.1)[j]? = some g.2.1 := by rw [List.getElem?_map, hj]; rfl
  rw [q] at e1
  have l1 := (List.getElem?_eq_some_iff.mp e1).1
  exact (List.getElem?_inj l1 hn).mp (e1.trans e2.symm)
/-- what a walk's texts share: the machine, the tables, the body's bytes, its class, its result's type, its name -/
def oK (p : Program) (s : State) (m : MethodId) (meth : Method) (c : Code) (Z : State) (own : String) (by0 : ByteArray) (ml : Nat) (ret : Option FieldType) (nm : String) : Prop :=
  (p.tables.exec = Jvm.exec ∧ Z.Warmed39 s.vm ∧ c.code = by0 ∧ c.maxLocals = ml) ∧ s.vm.findClass own = some m.cls ∧ meth.sig.returnType = ret ∧ meth.locks = false ∧ meth.name = nm
/-- the walk stands at T, knows ds of what it made, and has booked cells and slots -/
def oIn (p : Program) (l : Launch) (e : Env) (R : Room) (s : State) (m : MethodId) (args : Array Value) (below : List Frame) (meth : Method) (c : Code) (Z : State) (h0 : Heap) (T : State) (ds : oDs) (cells slots : Nat) : Prop :=
  ∃ locs, Stand p l e R s m args below meth c T locs cells slots ∧ Fr h0.size locs ∧ oMem Z h0 T.heap ds
/-- the run from T with the frame g returns, and P holds of what it returns and of what it leaves -/
def oEnds (p : Program) (e : Env) (R : Room) (s : State) (below : List Frame) (Z : State) (h0 : Heap) (P : Option Value → oDs → Prop) (T : State) (g : JFrame) : Prop :=
  ∃ s₂ o, Steps p.tables e below (T.setTop g) s₂ ∧ s₂.status = .running ∧ Ended s₂ below o ∧ ∃ v L, o = .returned v ∧ (Fr h0.size L ∧ ∃ ds', P v ds' ∧ oMem Z h0 s₂.heap ds') ∧ FrameEnd s o s₂ L R.cells R.slots
/-- from every state that knows ds, at pc with these locals and this stack, the body returns as P says -/
def oW (p : Program) (l : Launch) (e : Env) (R : Room) (s : State) (m : MethodId) (args : Array Value) (below : List Frame) (meth : Method) (c : Code) (Z : State) (h0 : Heap) (P : Option Value → oDs → Prop) (ds : oDs) (cells slots pc : Nat) (Ls : Array Slot) (S : List Value) : Prop :=
  ∀ T, oIn p l e R s m args below meth c Z h0 T ds cells slots → oEnds p e R s below Z h0 P T (mkF m pc Ls S)
/-- a body's contract: called with as' where the objects made are ds, it returns as P says, within the room rm -/
def oCtr (l : Launch) (Z : State) (h0 : Heap) (ws : List Jvm.Cond) (y : MethodName) (by0 : ByteArray) (ml : Nat) (ret : Option FieldType) (rm : Room) (as' : Array Value) (ds : oDs) (P : Option Value → oDs → Prop) : Prop :=
  ∀ h, oMem Z h0 h ds → MetFree l y (head1 (Jvm.Cond.code y by0 ml ret :: ws) rm) (fun a U => a = as' ∧ Z.Warmed39 U.vm ∧ U.heap = h) (fun _ _ _ _ _ => True)
    (fun _ U o U' => ∃ v L, o = .returned v ∧ (Fr h0.size L ∧ ∃ ds', P v ds' ∧ oMem Z h0 U'.heap ds') ∧ FrameEnd U o U' L rm.cells rm.slots)
def oVal (P2 : Value → oDs → Prop) (v : Option Value) (ds : oDs) : Prop := ∃ w, v = some w ∧ P2 w ds
def oVoid (P3 : oDs → Prop) (v : Option Value) (ds : oDs) : Prop := v = none ∧ P3 ds
theorem oCtr.of {l : Launch} {Z : State} {h0 : Heap} {ws : List Jvm.Cond} {y : MethodName} {by0 : ByteArray} {ml : Nat} {ret : Option FieldType} {rm : Room} {as' : Array Value} {ds : oDs} {P : Option Value → oDs → Prop} {Ls : Array Slot}
    (hpl : plainFor y = true) (hef : ∀ m, entryFrame m as' ml = mkF m 0 Ls [])
    (hb : ∀ p e s m below meth c, oK p s m meth c Z y.cls by0 ml ret y.name → oW p l e rm s m as' below meth c Z h0 P ds 0 0 0 Ls []) : oCtr l Z h0 ws y by0 ml ret rm as' ds P := by
  intro h M
  refine MetFree.of_bodySF hpl hisR ?_
  intro p e s m args below meth c s₁ Bd hml0 hP hK
  obtain ⟨rfl, hZ, hh⟩ := hP
  have e0 : s₁.heap = h := by rw [← hh, Bd.state]; rfl
  have K : oK p s m meth c Z y.cls by0 ml ret y.name := ⟨⟨Bd.exec, hZ, Bd.bytes, hml0⟩, findClass_of_methodNamed Bd.named, Bd.returns, Bd.notSynchronized, (name_of_methodNamed Bd.named Bd.method).1⟩
  obtain ⟨s₂, o, h1, h2⟩ := hb p e s m below meth c K s₁ ⟨[], Stand.of_body Bd, Fr.nil _, by rw [e0]; exact M⟩
  exact ⟨s₂, o, castTop (hef m) h1, h2⟩
section Steps
variable {p : Program} {l : Launch} {e : Env} {R : Room} {s : State} {m : MethodId} {args : Array Value} {below : List Frame} {meth : Method} {c : Code} {Z : State} {h0 : Heap} {own nm : String} {by0 : ByteArray} {ml : Nat} {ret : Option FieldType} {P : Option Value → oDs → Prop} {ds ds' : oDs} {cells slots pc pc' : Nat} {Ls Ls' : Array Slot} {S S' : List Value} {a0 : Array Value}
theorem oW.pure (st : ∀ T locs, Stand p l e R s m args below meth c T locs cells slots → ∀ t, Steps p.tables e below (T.setTop (mkF m pc' Ls' S')) t → Steps p.tables e below (T.setTop (mkF m pc Ls S)) t) (hr : oW p l e R s m args below meth c Z h0 P ds cells slots pc' Ls' S') : oW p l e R s m args below meth c Z h0 P ds cells slots pc Ls S := by
  rintro T ⟨locs, X, N, M⟩
  obtain ⟨s₂, o, h1, h2⟩ := hr T ⟨locs, X, N, M⟩
  exact ⟨s₂, o, st T locs X _ h1, h2⟩
theorem oW.ends {T T' : State} {g g' : JFrame} (st : ∀ t, Steps p.tables e below (T'.setTop g') t → Steps p.tables e below (T.setTop g) t) (hr : oEnds p e R s below Z h0 P T' g') : oEnds p e R s below Z h0 P T g := by
  obtain ⟨s₂, o, h1, h2⟩ := hr
  exact ⟨s₂, o, st _ h1, h2⟩
theorem oW.join {α : Type} {F : α → Prop} {pcj : Nat} {Lf : α → Array Slot} {Sf : α → List Value} {dsf : α → oDs} (h1 : (∀ z, F z → oW p l e R s m args below meth c Z h0 P (dsf z) cells slots pcj (Lf z) (Sf z)) → oW p l e R s m args below meth c Z h0 P ds cells slots pc Ls S) (h2 : ∀ z, F z → oW p l e R s m args below meth c Z h0 P (dsf z) cells slots pcj (Lf z) (Sf z)) : oW p l e R s m args below meth c Z h0 P ds cells slots pc Ls S := h1 h2
theorem oW.iload (K : oK p s m meth c Z own by0 ml ret nm) {k : Nat} {v : Int32} (hd : decode by0 pc = .ok (.iload k, 2)) (hl : Ls[k]? = some (.val (.int v))) (hp : pc + 2 = pc') (hr : oW p l e R s m args below meth c Z h0 P ds cells slots pc' Ls (.int v :: S)) : oW p l e R s m args below meth c Z h0 P ds cells slots pc Ls (S) := by
  subst hp
  exact oW.pure (fun T locs X t k => XS.iload X.here K.1.1 rfl (hb K.1.2.2.1 hd) hl k) hr
theorem oW.iloadN (K : oK p s m meth c Z own by0 ml ret nm) {k : Fin 4} {v : Int32} (hd : decode by0 pc = .ok (.iload_n k, 1)) (hl : Ls[k.val]? = some (.val (.int v))) (hp : pc + 1 = pc') (hr : oW p l e R s m args below meth c Z h0 P ds cells slots pc' Ls (.int v :: S)) : oW p l e R s m args below meth c Z h0 P ds cells slots pc Ls (S) := by
  subst hp
  exact oW.pure (fun T locs X t k => XS.iloadN X.here K.1.1 rfl (hb K.1.2.2.1 hd) hl k) hr
theorem oW.istore (K : oK p s m meth c Z own by0 ml ret nm) {k : Nat} {v : Int32} (hd : decode by0 pc = .ok (.istore k, 2)) (hl : storeLocals Ls k (.int v) = some Ls') (hp : pc + 2 = pc') (hr : oW p l e R s m args below meth c Z h0 P ds cells slots pc' Ls' (S)) : oW p l e R s m args below meth c Z h0 P ds cells slots pc Ls (.int v :: S) := by
  subst hp
  exact oW.pure (fun T locs X t k => XS.istore X.here K.1.1 rfl (hb K.1.2.2.1 hd) rfl hl k) hr
theorem oW.istoreN (K : oK p s m meth c Z own by0 ml ret nm) {k : Fin 4} {v : Int32} (hd : decode by0 pc = .ok (.istore_n k, 1)) (hl : storeLocals Ls k.val (.int v) = some Ls') (hp : pc + 1 = pc') (hr : oW p l e R s m args below meth c Z h0 P ds cells slots pc' Ls' (S)) : oW p l e R s m args below meth c Z h0 P ds cells slots pc Ls (.int v :: S) := by
  subst hp
  exact oW.pure (fun T locs X t k => XS.istoreN X.here K.1.1 rfl (hb K.1.2.2.1 hd) rfl hl k) hr
theorem oW.lload (K : oK p s m meth c Z own by0 ml ret nm) {k : Nat} {v : Int64} (hd : decode by0 pc = .ok (.lload k, 2)) (hl : Ls[k]? = some (.val (.long v))) (hp : pc + 2 = pc') (hr : oW p l e R s m args below meth c Z h0 P ds cells slots pc' Ls (.long v :: S)) : oW p l e R s m args below meth c Z h0 P ds cells slots pc Ls (S) := by
  subst hp
  exact oW.pure (fun T locs X t k => XS.lload X.here K.1.1 rfl (hb K.1.2.2.1 hd) hl k) hr
theorem oW.lloadN (K : oK p s m meth c Z own by0 ml ret nm) {k : Fin 4} {v : Int64} (hd : decode by0 pc = .ok (.lload_n k, 1)) (hl : Ls[k.val]? = some (.val (.long v))) (hp : pc + 1 = pc') (hr : oW p l e R s m args below meth c Z h0 P ds cells slots pc' Ls (.long v :: S)) : oW p l e R s m args below meth c Z h0 P ds cells slots pc Ls (S) := by
  subst hp
  exact oW.pure (fun T locs X t k => XS.lloadN X.here K.1.1 rfl (hb K.1.2.2.1 hd) hl k) hr
theorem oW.lstore (K : oK p s m meth c Z own by0 ml ret nm) {k : Nat} {v : Int64} (hd : decode by0 pc = .ok (.lstore k, 2)) (hl : storeLocals Ls k (.long v) = some Ls') (hp : pc + 2 = pc') (hr : oW p l e R s m args below meth c Z h0 P ds cells slots pc' Ls' (S)) : oW p l e R s m args below meth c Z h0 P ds cells slots pc Ls (.long v :: S) := by
  subst hp
  exact oW.pure (fun T locs X t k => XS.lstore X.here K.1.1 rfl (hb K.1.2.2.1 hd) rfl hl k) hr
theorem oW.lstoreN (K : oK p s m meth c Z own by0 ml ret nm) {k : Fin 4} {v : Int64} (hd : decode by0 pc = .ok (.lstore_n k, 1)) (hl : storeLocals Ls k.val (.long v) = some Ls') (hp : pc + 1 = pc') (hr : oW p l e R s m args below meth c Z h0 P ds cells slots pc' Ls' (S)) : oW p l e R s m args below meth c Z h0 P ds cells slots pc Ls (.long v :: S) := by
  subst hp
  exact oW.pure (fun T locs X t k => XS.lstoreN X.here K.1.1 rfl (hb K.1.2.2.1 hd) rfl hl k) hr
theorem oW.dload (K : oK p s m meth c Z own by0 ml ret nm) {k : Nat} {v : UInt64} (hd : decode by0 pc = .ok (.dload k, 2)) (hl : Ls[k]? = some (.val (.double v))) (hp : pc + 2 = pc') (hr : oW p l e R s m args below meth c Z h0 P ds cells slots pc' Ls (.double v :: S)) : oW p l e R s m args below meth c Z h0 P ds cells slots pc Ls (S) := by
  subst hp
  exact oW.pure (fun T locs X t k => XS.dload X.here K.1.1 rfl (hb K.1.2.2.1 hd) hl k) hr
theorem oW.dloadN (K : oK p s m meth c Z own by0 ml ret nm) {k : Fin 4} {v : UInt64} (hd : decode by0 pc = .ok (.dload_n k, 1)) (hl : Ls[k.val]? = some (.val (.double v))) (hp : pc + 1 = pc') (hr : oW p l e R s m args below meth c Z h0 P ds cells slots pc' Ls (.double v :: S)) : oW p l e R s m args below meth c Z h0 P ds cells slots pc Ls (S) := by
  subst hp
  exact oW.pure (fun T locs X t k => XS.dloadN X.here K.1.1 rfl (hb K.1.2.2.1 hd) hl k) hr
theorem oW.dstore (K : oK p s m meth c Z own by0 ml ret nm) {k : Nat} {v : UInt64} (hd : decode by0 pc = .ok (.dstore k, 2)) (hl : storeLocals Ls k (.double v) = some Ls') (hp : pc + 2 = pc') (hr : oW p l e R s m args below meth c Z h0 P ds cells slots pc' Ls' (S)) : oW p l e R s m args below meth c Z h0 P ds cells slots pc Ls (.double v :: S) := by
  subst hp
  exact oW.pure (fun T locs X t k => XS.dstore X.here K.1.1 rfl (hb K.1.2.2.1 hd) rfl hl k) hr
theorem oW.dstoreN (K : oK p s m meth c Z own by0 ml ret nm) {k : Fin 4} {v : UInt64} (hd : decode by0 pc = .ok (.dstore_n k, 1)) (hl : storeLocals Ls k.val (.double v) = some Ls') (hp : pc + 1 = pc') (hr : oW p l e R s m args below meth c Z h0 P ds cells slots pc' Ls' (S)) : oW p l e R s m args below meth c Z h0 P ds cells slots pc Ls (.double v :: S) := by
  subst hp
  exact oW.pure (fun T locs X t k => XS.dstoreN X.here K.1.1 rfl (hb K.1.2.2.1 hd) rfl hl k) hr
theorem oW.aload (K : oK p s m meth c Z own by0 ml ret nm) {k : Nat} {v : Value} (hd : decode by0 pc = .ok (.aload k, 2)) (hl : Ls[k]? = some (.val v)) (hv : v.isRef = true) (hp : pc + 2 = pc') (hr : oW p l e R s m args below meth c Z h0 P ds cells slots pc' Ls (v :: S)) : oW p l e R s m args below meth c Z h0 P ds cells slots pc Ls (S) := by
  subst hp
  exact oW.pure (fun T locs X t k => XS.aload X.here K.1.1 rfl (hb K.1.2.2.1 hd) hl hv k) hr
theorem oW.aloadN (K : oK p s m meth c Z own by0 ml ret nm) {k : Fin 4} {v : Value} (hd : decode by0 pc = .ok (.aload_n k, 1)) (hl : Ls[k.val]? = some (.val v)) (hv : v.isRef = true) (hp : pc + 1 = pc') (hr : oW p l e R s m args below meth c Z h0 P ds cells slots pc' Ls (v :: S)) : oW p l e R s m args below meth c Z h0 P ds cells slots pc Ls (S) := by
  subst hp
  exact oW.pure (fun T locs X t k => XS.aloadN X.here K.1.1 rfl (hb K.1.2.2.1 hd) hl hv k) hr
theorem oW.astore (K : oK p s m meth c Z own by0 ml ret nm) {k : Nat} {v : Value} (hd : decode by0 pc = .ok (.astore k, 2)) (hv : v.isRef = true) (hl : storeLocals Ls k v = some Ls') (hp : pc + 2 = pc') (hr : oW p l e R s m args below meth c Z h0 P ds cells slots pc' Ls' (S)) : oW p l e R s m args below meth c Z h0 P ds cells slots pc Ls (v :: S) := by
  subst hp
  exact oW.pure (fun T locs X t k => XS.astore X.here K.1.1 rfl (hb K.1.2.2.1 hd) rfl hv hl k) hr
theorem oW.astoreN (K : oK p s m meth c Z own by0 ml ret nm) {k : Fin 4} {v : Value} (hd : decode by0 pc = .ok (.astore_n k, 1)) (hv : v.isRef = true) (hl : storeLocals Ls k.val v = some Ls') (hp : pc + 1 = pc') (hr : oW p l e R s m args below meth c Z h0 P ds cells slots pc' Ls' (S)) : oW p l e R s m args below meth c Z h0 P ds cells slots pc Ls (v :: S) := by
  subst hp
  exact oW.pure (fun T locs X t k => XS.astoreN X.here K.1.1 rfl (hb K.1.2.2.1 hd) rfl hv hl k) hr
theorem oW.aconstNull (K : oK p s m meth c Z own by0 ml ret nm)  (hd : decode by0 pc = .ok (.aconst_null, 1))  (hp : pc + 1 = pc') (hr : oW p l e R s m args below meth c Z h0 P ds cells slots pc' Ls (.null :: S)) : oW p l e R s m args below meth c Z h0 P ds cells slots pc Ls (S) := by
  subst hp
  exact oW.pure (fun T locs X t k => XS.aconstNull X.here K.1.1 rfl (hb K.1.2.2.1 hd) k) hr
theorem oW.iconst (K : oK p s m meth c Z own by0 ml ret nm) {i : Int} {v : Int32} (hd : decode by0 pc = .ok (.iconst i, 1)) (hv : v = Int32.ofInt i) (hp : pc + 1 = pc') (hr : oW p l e R s m args below meth c Z h0 P ds cells slots pc' Ls (.int v :: S)) : oW p l e R s m args below meth c Z h0 P ds cells slots pc Ls (S) := by
  subst hp hv
  exact oW.pure (fun T locs X t k => XS.iconst X.here K.1.1 rfl (hb K.1.2.2.1 hd) k) hr
theorem oW.bipush (K : oK p s m meth c Z own by0 ml ret nm) {i : Int} {v : Int32} (hd : decode by0 pc = .ok (.bipush i, 2)) (hv : v = (Int8.ofInt i).toInt32) (hp : pc + 2 = pc') (hr : oW p l e R s m args below meth c Z h0 P ds cells slots pc' Ls (.int v :: S)) : oW p l e R s m args below meth c Z h0 P ds cells slots pc Ls (S) := by
  subst hp hv
  exact oW.pure (fun T locs X t k => XS.bipush X.here K.1.1 rfl (hb K.1.2.2.1 hd) k) hr
theorem oW.sipush (K : oK p s m meth c Z own by0 ml ret nm) {i : Int} {v : Int32} (hd : decode by0 pc = .ok (.sipush i, 3)) (hv : v = (Int16.ofInt i).toInt32) (hp : pc + 3 = pc') (hr : oW p l e R s m args below meth c Z h0 P ds cells slots pc' Ls (.int v :: S)) : oW p l e R s m args below meth c Z h0 P ds cells slots pc Ls (S) := by
  subst hp hv
  exact oW.pure (fun T locs X t k => XS.sipush X.here K.1.1 rfl (hb K.1.2.2.1 hd) k) hr
theorem oW.lconst (K : oK p s m meth c Z own by0 ml ret nm) {k : Fin 2} {v : Int64} (hd : decode by0 pc = .ok (.lconst k, 1)) (hv : v = Int64.ofNat k.val) (hp : pc + 1 = pc') (hr : oW p l e R s m args below meth c Z h0 P ds cells slots pc' Ls (.long v :: S)) : oW p l e R s m args below meth c Z h0 P ds cells slots pc Ls (S) := by
  subst hp hv
  exact oW.pure (fun T locs X t k => XT.lconst X.here K.1.1 rfl (hb K.1.2.2.1 hd) k) hr
theorem oW.dconst0 (K : oK p s m meth c Z own by0 ml ret nm)  (hd : decode by0 pc = .ok (.dconst 0, 1))  (hp : pc + 1 = pc') (hr : oW p l e R s m args below meth c Z h0 P ds cells slots pc' Ls (.double 0 :: S)) : oW p l e R s m args below meth c Z h0 P ds cells slots pc Ls (S) := by
  subst hp
  exact oW.pure (fun T locs X t k => XS.dconst0 X.here K.1.1 rfl (hb K.1.2.2.1 hd) rfl k) hr
theorem oW.dconst1 (K : oK p s m meth c Z own by0 ml ret nm)  (hd : decode by0 pc = .ok (.dconst 1, 1))  (hp : pc + 1 = pc') (hr : oW p l e R s m args below meth c Z h0 P ds cells slots pc' Ls (.double 4607182418800017408 :: S)) : oW p l e R s m args below meth c Z h0 P ds cells slots pc Ls (S) := by
  subst hp
  exact oW.pure (fun T locs X t k => XS.dconst1 X.here K.1.1 rfl (hb K.1.2.2.1 hd) rfl k) hr
theorem oW.iadd (K : oK p s m meth c Z own by0 ml ret nm) {x y v : Int32} (hd : decode by0 pc = .ok (.iadd, 1)) (hv : v = x + y) (hp : pc + 1 = pc') (hr : oW p l e R s m args below meth c Z h0 P ds cells slots pc' Ls (.int v :: S)) : oW p l e R s m args below meth c Z h0 P ds cells slots pc Ls (.int y :: .int x :: S) := by
  subst hp hv
  exact oW.pure (fun T locs X t k => XS.iadd X.here K.1.1 rfl (hb K.1.2.2.1 hd) rfl k) hr
theorem oW.ladd (K : oK p s m meth c Z own by0 ml ret nm) {x y v : Int64} (hd : decode by0 pc = .ok (.ladd, 1)) (hv : v = x + y) (hp : pc + 1 = pc') (hr : oW p l e R s m args below meth c Z h0 P ds cells slots pc' Ls (.long v :: S)) : oW p l e R s m args below meth c Z h0 P ds cells slots pc Ls (.long y :: .long x :: S) := by
  subst hp hv
  exact oW.pure (fun T locs X t k => XT.ladd X.here K.1.1 rfl (hb K.1.2.2.1 hd) rfl k) hr
theorem oW.isub (K : oK p s m meth c Z own by0 ml ret nm) {x y v : Int32} (hd : decode by0 pc = .ok (.isub, 1)) (hv : v = x - y) (hp : pc + 1 = pc') (hr : oW p l e R s m args below meth c Z h0 P ds cells slots pc' Ls (.int v :: S)) : oW p l e R s m args below meth c Z h0 P ds cells slots pc Ls (.int y :: .int x :: S) := by
  subst hp hv
  exact oW.pure (fun T locs X t k => XS.isub X.here K.1.1 rfl (hb K.1.2.2.1 hd) rfl k) hr
theorem oW.lsub (K : oK p s m meth c Z own by0 ml ret nm) {x y v : Int64} (hd : decode by0 pc = .ok (.lsub, 1)) (hv : v = x - y) (hp : pc + 1 = pc') (hr : oW p l e R s m args below meth c Z h0 P ds cells slots pc' Ls (.long v :: S)) : oW p l e R s m args below meth c Z h0 P ds cells slots pc Ls (.long y :: .long x :: S) := by
  subst hp hv
  exact oW.pure (fun T locs X t k => XT.lsub X.here K.1.1 rfl (hb K.1.2.2.1 hd) rfl k) hr
theorem oW.imul (K : oK p s m meth c Z own by0 ml ret nm) {x y v : Int32} (hd : decode by0 pc = .ok (.imul, 1)) (hv : v = x * y) (hp : pc + 1 = pc') (hr : oW p l e R s m args below meth c Z h0 P ds cells slots pc' Ls (.int v :: S)) : oW p l e R s m args below meth c Z h0 P ds cells slots pc Ls (.int y :: .int x :: S) := by
  subst hp hv
  exact oW.pure (fun T locs X t k => XS.imul X.here K.1.1 rfl (hb K.1.2.2.1 hd) rfl k) hr
theorem oW.lmul (K : oK p s m meth c Z own by0 ml ret nm) {x y v : Int64} (hd : decode by0 pc = .ok (.lmul, 1)) (hv : v = x * y) (hp : pc + 1 = pc') (hr : oW p l e R s m args below meth c Z h0 P ds cells slots pc' Ls (.long v :: S)) : oW p l e R s m args below meth c Z h0 P ds cells slots pc Ls (.long y :: .long x :: S) := by
  subst hp hv
  exact oW.pure (fun T locs X t k => XT.lmul X.here K.1.1 rfl (hb K.1.2.2.1 hd) rfl k) hr
theorem oW.iand (K : oK p s m meth c Z own by0 ml ret nm) {x y v : Int32} (hd : decode by0 pc = .ok (.iand, 1)) (hv : v = x &&& y) (hp : pc + 1 = pc') (hr : oW p l e R s m args below meth c Z h0 P ds cells slots pc' Ls (.int v :: S)) : oW p l e R s m args below meth c Z h0 P ds cells slots pc Ls (.int y :: .int x :: S) := by
  subst hp hv
  exact oW.pure (fun T locs X t k => XS.iand X.here K.1.1 rfl (hb K.1.2.2.1 hd) rfl k) hr
theorem oW.land (K : oK p s m meth c Z own by0 ml ret nm) {x y v : Int64} (hd : decode by0 pc = .ok (.land, 1)) (hv : v = x &&& y) (hp : pc + 1 = pc') (hr : oW p l e R s m args below meth c Z h0 P ds cells slots pc' Ls (.long v :: S)) : oW p l e R s m args below meth c Z h0 P ds cells slots pc Ls (.long y :: .long x :: S) := by
  subst hp hv
  exact oW.pure (fun T locs X t k => XT.land X.here K.1.1 rfl (hb K.1.2.2.1 hd) rfl k) hr
theorem oW.ior (K : oK p s m meth c Z own by0 ml ret nm) {x y v : Int32} (hd : decode by0 pc = .ok (.ior, 1)) (hv : v = x ||| y) (hp : pc + 1 = pc') (hr : oW p l e R s m args below meth c Z h0 P ds cells slots pc' Ls (.int v :: S)) : oW p l e R s m args below meth c Z h0 P ds cells slots pc Ls (.int y :: .int x :: S) := by
  subst hp hv
  exact oW.pure (fun T locs X t k => XT.ior X.here K.1.1 rfl (hb K.1.2.2.1 hd) rfl k) hr
theorem oW.lor (K : oK p s m meth c Z own by0 ml ret nm) {x y v : Int64} (hd : decode by0 pc = .ok (.lor, 1)) (hv : v = x ||| y) (hp : pc + 1 = pc') (hr : oW p l e R s m args below meth c Z h0 P ds cells slots pc' Ls (.long v :: S)) : oW p l e R s m args below meth c Z h0 P ds cells slots pc Ls (.long y :: .long x :: S) := by
  subst hp hv
  exact oW.pure (fun T locs X t k => XT.lor X.here K.1.1 rfl (hb K.1.2.2.1 hd) rfl k) hr
theorem oW.ixor (K : oK p s m meth c Z own by0 ml ret nm) {x y v : Int32} (hd : decode by0 pc = .ok (.ixor, 1)) (hv : v = x ^^^ y) (hp : pc + 1 = pc') (hr : oW p l e R s m args below meth c Z h0 P ds cells slots pc' Ls (.int v :: S)) : oW p l e R s m args below meth c Z h0 P ds cells slots pc Ls (.int y :: .int x :: S) := by
  subst hp hv
  exact oW.pure (fun T locs X t k => XT.ixor X.here K.1.1 rfl (hb K.1.2.2.1 hd) rfl k) hr
theorem oW.lxor (K : oK p s m meth c Z own by0 ml ret nm) {x y v : Int64} (hd : decode by0 pc = .ok (.lxor, 1)) (hv : v = x ^^^ y) (hp : pc + 1 = pc') (hr : oW p l e R s m args below meth c Z h0 P ds cells slots pc' Ls (.long v :: S)) : oW p l e R s m args below meth c Z h0 P ds cells slots pc Ls (.long y :: .long x :: S) := by
  subst hp hv
  exact oW.pure (fun T locs X t k => XT.lxor X.here K.1.1 rfl (hb K.1.2.2.1 hd) rfl k) hr
theorem oW.idiv (K : oK p s m meth c Z own by0 ml ret nm) {x y v : Int32} (hd : decode by0 pc = .ok (.idiv, 1)) (hy : y ≠ 0) (hv : v = x / y) (hp : pc + 1 = pc') (hr : oW p l e R s m args below meth c Z h0 P ds cells slots pc' Ls (.int v :: S)) : oW p l e R s m args below meth c Z h0 P ds cells slots pc Ls (.int y :: .int x :: S) := by
  subst hp hv
  exact oW.pure (fun T locs X t k => XS.idiv X.here K.1.1 rfl (hb K.1.2.2.1 hd) rfl hy k) hr
theorem oW.irem (K : oK p s m meth c Z own by0 ml ret nm) {x y v : Int32} (hd : decode by0 pc = .ok (.irem, 1)) (hy : y ≠ 0) (hv : v = x % y) (hp : pc + 1 = pc') (hr : oW p l e R s m args below meth c Z h0 P ds cells slots pc' Ls (.int v :: S)) : oW p l e R s m args below meth c Z h0 P ds cells slots pc Ls (.int y :: .int x :: S) := by
  subst hp hv
  exact oW.pure (fun T locs X t k => iremM X K.1.1 rfl (hb K.1.2.2.1 hd) rfl hy k) hr
theorem oW.ineg (K : oK p s m meth c Z own by0 ml ret nm) {x v : Int32} (hd : decode by0 pc = .ok (.ineg, 1)) (hv : v = -x) (hp : pc + 1 = pc') (hr : oW p l e R s m args below meth c Z h0 P ds cells slots pc' Ls (.int v :: S)) : oW p l e R s m args below meth c Z h0 P ds cells slots pc Ls (.int x :: S) := by
  subst hp hv
  exact oW.pure (fun T locs X t k => XS.ineg X.here K.1.1 rfl (hb K.1.2.2.1 hd) rfl k) hr
theorem oW.ishl (K : oK p s m meth c Z own by0 ml ret nm) {x y v : Int32} (hd : decode by0 pc = .ok (.ishl, 1)) (hv : v = x <<< (y &&& 31)) (hp : pc + 1 = pc') (hr : oW p l e R s m args below meth c Z h0 P ds cells slots pc' Ls (.int v :: S)) : oW p l e R s m args below meth c Z h0 P ds cells slots pc Ls (.int y :: .int x :: S) := by
  subst hp hv
  exact oW.pure (fun T locs X t k => XT.ishl X.here K.1.1 rfl (hb K.1.2.2.1 hd) rfl k) hr
theorem oW.ishr (K : oK p s m meth c Z own by0 ml ret nm) {x y v : Int32} (hd : decode by0 pc = .ok (.ishr, 1)) (hv : v = x >>> (y &&& 31)) (hp : pc + 1 = pc') (hr : oW p l e R s m args below meth c Z h0 P ds cells slots pc' Ls (.int v :: S)) : oW p l e R s m args below meth c Z h0 P ds cells slots pc Ls (.int y :: .int x :: S) := by
  subst hp hv
  exact oW.pure (fun T locs X t k => XT.ishr X.here K.1.1 rfl (hb K.1.2.2.1 hd) rfl k) hr
theorem oW.iushr (K : oK p s m meth c Z own by0 ml ret nm) {x y v : Int32} (hd : decode by0 pc = .ok (.iushr, 1)) (hv : v = XT.ushr x y) (hp : pc + 1 = pc') (hr : oW p l e R s m args below meth c Z h0 P ds cells slots pc' Ls (.int v :: S)) : oW p l e R s m args below meth c Z h0 P ds cells slots pc Ls (.int y :: .int x :: S) := by
  subst hp hv
  exact oW.pure (fun T locs X t k => XT.iushr X.here K.1.1 rfl (hb K.1.2.2.1 hd) rfl k) hr
theorem oW.iinc (K : oK p s m meth c Z own by0 ml ret nm) {k : Nat} {cst : Int} {x v : Int32} (hd : decode by0 pc = .ok (.iinc k cst, 3)) (hl : Ls[k]? = some (.val (.int x))) (hv : v = x + Int32.ofInt cst) (hs : storeLocals Ls k (.int v) = some Ls') (hp : pc + 3 = pc') (hr : oW p l e R s m args below meth c Z h0 P ds cells slots pc' Ls' (S)) : oW p l e R s m args below meth c Z h0 P ds cells slots pc Ls (S) := by
  subst hp hv
  exact oW.pure (fun T locs X t k => XS.iinc X.here K.1.1 rfl (hb K.1.2.2.1 hd) hl hs k) hr
theorem oW.i2l (K : oK p s m meth c Z own by0 ml ret nm) {x : Int32} {v : Int64} (hd : decode by0 pc = .ok (.i2l, 1)) (hv : v = x.toInt64) (hp : pc + 1 = pc') (hr : oW p l e R s m args below meth c Z h0 P ds cells slots pc' Ls (.long v :: S)) : oW p l e R s m args below meth c Z h0 P ds cells slots pc Ls (.int x :: S) := by
  subst hp hv
  exact oW.pure (fun T locs X t k => XT.i2l X.here K.1.1 rfl (hb K.1.2.2.1 hd) rfl k) hr
theorem oW.l2i (K : oK p s m meth c Z own by0 ml ret nm) {x : Int64} {v : Int32} (hd : decode by0 pc = .ok (.l2i, 1)) (hv : v = x.toInt32) (hp : pc + 1 = pc') (hr : oW p l e R s m args below meth c Z h0 P ds cells slots pc' Ls (.int v :: S)) : oW p l e R s m args below meth c Z h0 P ds cells slots pc Ls (.long x :: S) := by
  subst hp hv
  exact oW.pure (fun T locs X t k => XT.l2i X.here K.1.1 rfl (hb K.1.2.2.1 hd) rfl k) hr
theorem oW.i2s (K : oK p s m meth c Z own by0 ml ret nm) {x v : Int32} (hd : decode by0 pc = .ok (.i2s, 1)) (hv : v = x.toInt16.toInt32) (hp : pc + 1 = pc') (hr : oW p l e R s m args below meth c Z h0 P ds cells slots pc' Ls (.int v :: S)) : oW p l e R s m args below meth c Z h0 P ds cells slots pc Ls (.int x :: S) := by
  subst hp hv
  exact oW.pure (fun T locs X t k => XT.i2s X.here K.1.1 rfl (hb K.1.2.2.1 hd) rfl k) hr
theorem oW.lshl (K : oK p s m meth c Z own by0 ml ret nm) {x v : Int64} {y : Int32} (hd : decode by0 pc = .ok (.lshl, 1)) (hv : v = x <<< (y.toInt64 &&& 63)) (hp : pc + 1 = pc') (hr : oW p l e R s m args below meth c Z h0 P ds cells slots pc' Ls (.long v :: S)) : oW p l e R s m args below meth c Z h0 P ds cells slots pc Ls (.int y :: .long x :: S) := by
  subst hp hv
  exact oW.pure (fun T locs X t k => XT.lshl X.here K.1.1 rfl (hb K.1.2.2.1 hd) rfl k) hr
theorem oW.lshr (K : oK p s m meth c Z own by0 ml ret nm) {x v : Int64} {y : Int32} (hd : decode by0 pc = .ok (.lshr, 1)) (hv : v = x >>> (y.toInt64 &&& 63)) (hp : pc + 1 = pc') (hr : oW p l e R s m args below meth c Z h0 P ds cells slots pc' Ls (.long v :: S)) : oW p l e R s m args below meth c Z h0 P ds cells slots pc Ls (.int y :: .long x :: S) := by
  subst hp hv
  exact oW.pure (fun T locs X t k => XT.lshr X.here K.1.1 rfl (hb K.1.2.2.1 hd) rfl k) hr
theorem oW.lushr (K : oK p s m meth c Z own by0 ml ret nm) {x v : Int64} {y : Int32} (hd : decode by0 pc = .ok (.lushr, 1)) (hv : v = XT.ushrL x y) (hp : pc + 1 = pc') (hr : oW p l e R s m args below meth c Z h0 P ds cells slots pc' Ls (.long v :: S)) : oW p l e R s m args below meth c Z h0 P ds cells slots pc Ls (.int y :: .long x :: S) := by
  subst hp hv
  exact oW.pure (fun T locs X t k => XT.lushr X.here K.1.1 rfl (hb K.1.2.2.1 hd) rfl k) hr
theorem oW.lcmp (K : oK p s m meth c Z own by0 ml ret nm) {x y : Int64} {v : Int32} (hd : decode by0 pc = .ok (.lcmp, 1)) (hv : v = XT.cmpL x y) (hp : pc + 1 = pc') (hr : oW p l e R s m args below meth c Z h0 P ds cells slots pc' Ls (.int v :: S)) : oW p l e R s m args below meth c Z h0 P ds cells slots pc Ls (.long y :: .long x :: S) := by
  subst hp hv
  exact oW.pure (fun T locs X t k => XT.lcmp X.here K.1.1 rfl (hb K.1.2.2.1 hd) rfl k) hr
theorem oW.i2d (K : oK p s m meth c Z own by0 ml ret nm) {x : Int32} {v : UInt64} (hd : decode by0 pc = .ok (.i2d, 1)) (hv : v = FP.i2d x) (hp : pc + 1 = pc') (hr : oW p l e R s m args below meth c Z h0 P ds cells slots pc' Ls (.double v :: S)) : oW p l e R s m args below meth c Z h0 P ds cells slots pc Ls (.int x :: S) := by
  subst hp hv
  exact oW.pure (fun T locs X t k => XS.i2dS X.here K.1.1 rfl (hb K.1.2.2.1 hd) rfl rfl k) hr
theorem oW.l2d (K : oK p s m meth c Z own by0 ml ret nm) {x : Int64} {v : UInt64} (hd : decode by0 pc = .ok (.l2d, 1)) (hv : v = FP.l2d x) (hp : pc + 1 = pc') (hr : oW p l e R s m args below meth c Z h0 P ds cells slots pc' Ls (.double v :: S)) : oW p l e R s m args below meth c Z h0 P ds cells slots pc Ls (.long x :: S) := by
  subst hp hv
  exact oW.pure (fun T locs X t k => XS.l2dS X.here K.1.1 rfl (hb K.1.2.2.1 hd) rfl rfl k) hr
theorem oW.dcmp (K : oK p s m meth c Z own by0 ml ret nm) {o : CmpOp} {x y : UInt64} {v : Int32} (hd : decode by0 pc = .ok (.dcmp o, 1)) (hv : v = cmpValue (FP.dcmp x y) o) (hp : pc + 1 = pc') (hr : oW p l e R s m args below meth c Z h0 P ds cells slots pc' Ls (.int v :: S)) : oW p l e R s m args below meth c Z h0 P ds cells slots pc Ls (.double y :: .double x :: S) := by
  subst hp hv
  exact oW.pure (fun T locs X t k => XS.dcmpS X.here K.1.1 rfl (hb K.1.2.2.1 hd) rfl rfl k) hr
theorem oW.dadd (K : oK p s m meth c Z own by0 ml ret nm) {x y v : UInt64} (hd : decode by0 pc = .ok (.dadd, 1)) (hv : v = FP.dadd x y) (hn : Jvm.Free.Fl.NoNaN64 v) (hp : pc + 1 = pc') (hr : oW p l e R s m args below meth c Z h0 P ds cells slots pc' Ls (.double v :: S)) : oW p l e R s m args below meth c Z h0 P ds cells slots pc Ls (.double y :: .double x :: S) := by
  subst hp hv
  exact oW.pure (fun T locs X t k => XS.daddS X.here K.1.1 rfl (hb K.1.2.2.1 hd) rfl hn rfl k) hr
theorem oW.dsub (K : oK p s m meth c Z own by0 ml ret nm) {x y v : UInt64} (hd : decode by0 pc = .ok (.dsub, 1)) (hv : v = FP.dsub x y) (hn : Jvm.Free.Fl.NoNaN64 v) (hp : pc + 1 = pc') (hr : oW p l e R s m args below meth c Z h0 P ds cells slots pc' Ls (.double v :: S)) : oW p l e R s m args below meth c Z h0 P ds cells slots pc Ls (.double y :: .double x :: S) := by
  subst hp hv
  exact oW.pure (fun T locs X t k => XS.dsubS X.here K.1.1 rfl (hb K.1.2.2.1 hd) rfl hn rfl k) hr
theorem oW.dmul (K : oK p s m meth c Z own by0 ml ret nm) {x y v : UInt64} (hd : decode by0 pc = .ok (.dmul, 1)) (hv : v = FP.dmul x y) (hn : Jvm.Free.Fl.NoNaN64 v) (hp : pc + 1 = pc') (hr : oW p l e R s m args below meth c Z h0 P ds cells slots pc' Ls (.double v :: S)) : oW p l e R s m args below meth c Z h0 P ds cells slots pc Ls (.double y :: .double x :: S) := by
  subst hp hv
  exact oW.pure (fun T locs X t k => XS.dmulS X.here K.1.1 rfl (hb K.1.2.2.1 hd) rfl hn rfl k) hr
theorem oW.ddiv (K : oK p s m meth c Z own by0 ml ret nm) {x y v : UInt64} (hd : decode by0 pc = .ok (.ddiv, 1)) (hv : v = FP.ddiv x y) (hn : Jvm.Free.Fl.NoNaN64 v) (hp : pc + 1 = pc') (hr : oW p l e R s m args below meth c Z h0 P ds cells slots pc' Ls (.double v :: S)) : oW p l e R s m args below meth c Z h0 P ds cells slots pc Ls (.double y :: .double x :: S) := by
  subst hp hv
  exact oW.pure (fun T locs X t k => XS.ddivS X.here K.1.1 rfl (hb K.1.2.2.1 hd) rfl hn rfl k) hr
theorem oW.dup (K : oK p s m meth c Z own by0 ml ret nm) {x : Value} (hd : decode by0 pc = .ok (.dup, 1)) (hc : x.category = 1) (hp : pc + 1 = pc') (hr : oW p l e R s m args below meth c Z h0 P ds cells slots pc' Ls (x :: x :: S)) : oW p l e R s m args below meth c Z h0 P ds cells slots pc Ls (x :: S) := by
  subst hp
  exact oW.pure (fun T locs X t k => XS.dup X.here K.1.1 rfl (hb K.1.2.2.1 hd) rfl hc k) hr
theorem oW.pop (K : oK p s m meth c Z own by0 ml ret nm) {x : Value} (hd : decode by0 pc = .ok (.pop, 1)) (hc : x.category = 1) (hp : pc + 1 = pc') (hr : oW p l e R s m args below meth c Z h0 P ds cells slots pc' Ls (S)) : oW p l e R s m args below meth c Z h0 P ds cells slots pc Ls (x :: S) := by
  subst hp
  exact oW.pure (fun T locs X t k => XT.pop X.here K.1.1 rfl (hb K.1.2.2.1 hd) rfl hc k) hr
theorem oW.dup2 (K : oK p s m meth c Z own by0 ml ret nm) {x y : Value} (hd : decode by0 pc = .ok (.dup2, 1)) (hc : x.category = 1) (hc' : y.category = 1) (hp : pc + 1 = pc') (hr : oW p l e R s m args below meth c Z h0 P ds cells slots pc' Ls (x :: y :: x :: y :: S)) : oW p l e R s m args below meth c Z h0 P ds cells slots pc Ls (x :: y :: S) := by
  subst hp
  exact oW.pure (fun T locs X t k => XT.dup2 X.here K.1.1 rfl (hb K.1.2.2.1 hd) rfl hc hc' k) hr
theorem oW.dupX1 (K : oK p s m meth c Z own by0 ml ret nm) {x y : Value} (hd : decode by0 pc = .ok (.dup_x1, 1)) (hc : x.category = 1) (hc' : y.category = 1) (hp : pc + 1 = pc') (hr : oW p l e R s m args below meth c Z h0 P ds cells slots pc' Ls (x :: y :: x :: S)) : oW p l e R s m args below meth c Z h0 P ds cells slots pc Ls (x :: y :: S) := by
  subst hp
  exact oW.pure (fun T locs X t k => XT.dupX1 X.here K.1.1 rfl (hb K.1.2.2.1 hd) rfl hc hc' k) hr
theorem oW.goto (K : oK p s m meth c Z own by0 ml ret nm) {o : Int} (hd : decode by0 pc = .ok (.goto o, 3)) (ho : 0 ≤ (pc : Int) + o) (hp : ((pc : Int) + o).toNat = pc') (hr : oW p l e R s m args below meth c Z h0 P ds cells slots pc' Ls S) : oW p l e R s m args below meth c Z h0 P ds cells slots pc Ls S :=
  oW.pure (fun T locs X t k => XS.goto X.here K.1.1 rfl rfl (hb K.1.2.2.1 hd) ho hp k) hr
theorem oW.ifc (K : oK p s m meth c Z own by0 ml ret nm) {cd : ClassFile.Cond} {o : Int} {x : Int32} {pc3 : Nat} (hd : decode by0 pc = .ok (.ifCond cd o, 3)) (ho : 0 ≤ (pc : Int) + o) (hp : ((pc : Int) + o).toNat = pc') (h3 : pc + 3 = pc3) (hy : if_icmp.holds cd x 0 = true → oW p l e R s m args below meth c Z h0 P ds cells slots pc' Ls S) (hn : if_icmp.holds cd x 0 = false → oW p l e R s m args below meth c Z h0 P ds cells slots pc3 Ls S) : oW p l e R s m args below meth c Z h0 P ds cells slots pc Ls (.int x :: S) := by
  subst h3
  cases q : if_icmp.holds cd x 0
  · exact oW.pure (fun T locs X t k => XS.ifNo X.here K.1.1 rfl (hb K.1.2.2.1 hd) rfl ((if0 _ _).trans q) k) (hn q)
  · exact oW.pure (fun T locs X t k => XS.ifYes X.here K.1.1 rfl rfl (hb K.1.2.2.1 hd) rfl ((if0 _ _).trans q) ho hp k) (hy q)
theorem oW.icc (K : oK p s m meth c Z own by0 ml ret nm) {cd : ClassFile.Cond} {o : Int} {x y : Int32} {pc3 : Nat} (hd : decode by0 pc = .ok (.if_icmp cd o, 3)) (ho : 0 ≤ (pc : Int) + o) (hp : ((pc : Int) + o).toNat = pc') (h3 : pc + 3 = pc3) (hy : if_icmp.holds cd x y = true → oW p l e R s m args below meth c Z h0 P ds cells slots pc' Ls S) (hn : if_icmp.holds cd x y = false → oW p l e R s m args below meth c Z h0 P ds cells slots pc3 Ls S) : oW p l e R s m args below meth c Z h0 P ds cells slots pc Ls (.int y :: .int x :: S) := by
  subst h3
  cases q : if_icmp.holds cd x y
  · exact oW.pure (fun T locs X t k => XS.icmpNo X.here K.1.1 rfl (hb K.1.2.2.1 hd) rfl q k) (hn q)
  · exact oW.pure (fun T locs X t k => XS.icmpYes X.here K.1.1 rfl rfl (hb K.1.2.2.1 hd) rfl q ho hp k) (hy q)
theorem oH_lt {x y : Int32} : (if_icmp.holds .lt x y = true → x < y) ∧ (if_icmp.holds .lt x y = false → ¬ x < y) := ⟨fun q => Decidable.byContradiction (fun r => absurd q (by rw [(flt r).1]; decide)), fun q r => absurd q (by rw [(tlt r).1]; decide)⟩
theorem oH_ge {x y : Int32} : (if_icmp.holds .ge x y = true → ¬ x < y) ∧ (if_icmp.holds .ge x y = false → x < y) := ⟨fun q r => absurd q (by rw [(tlt r).2.1]; decide), fun q => Decidable.byContradiction (fun r => absurd q (by rw [(flt r).2.1]; decide))⟩
theorem oH_gt {x y : Int32} : (if_icmp.holds .gt x y = true → y < x) ∧ (if_icmp.holds .gt x y = false → ¬ y < x) := ⟨fun q => Decidable.byContradiction (fun r => absurd q (by rw [(flt r).2.2.1]; decide)), fun q r => absurd q (by rw [(tlt r).2.2.1]; decide)⟩
theorem oH_le {x y : Int32} : (if_icmp.holds .le x y = true → ¬ y < x) ∧ (if_icmp.holds .le x y = false → y < x) := ⟨fun q r => absurd q (by rw [(tlt r).2.2.2]; decide), fun q => Decidable.byContradiction (fun r => absurd q (by rw [(flt r).2.2.2]; decide))⟩
theorem oH_eq {x y : Int32} : (if_icmp.holds .eq x y = true → x = y) ∧ (if_icmp.holds .eq x y = false → ¬ x = y) := ⟨fun q => Decidable.byContradiction (fun r => absurd q (by rw [(feq r).1]; decide)), fun q r => absurd q (by rw [(teq r).1]; decide)⟩
theorem oH_ne {x y : Int32} : (if_icmp.holds .ne x y = true → ¬ x = y) ∧ (if_icmp.holds .ne x y = false → x = y) := ⟨fun q r => absurd q (by rw [(teq r).2]; decide), fun q => Decidable.byContradiction (fun r => absurd q (by rw [(feq r).2]; decide))⟩
theorem oW.if_lt (K : oK p s m meth c Z own by0 ml ret nm) {o : Int} {x : Int32} {pc3 : Nat} (hd : decode by0 pc = .ok (.ifCond .lt o, 3)) (ho : 0 ≤ (pc : Int) + o) (hp : ((pc : Int) + o).toNat = pc') (h3 : pc + 3 = pc3) (hy : x < 0 → oW p l e R s m args below meth c Z h0 P ds cells slots pc' Ls S) (hn : ¬ x < 0 → oW p l e R s m args below meth c Z h0 P ds cells slots pc3 Ls S) : oW p l e R s m args below meth c Z h0 P ds cells slots pc Ls (.int x :: S) :=
  oW.ifc K hd ho hp h3 (fun q => hy (oH_lt.1 q)) (fun q => hn (oH_lt.2 q))
theorem oW.icmp_lt (K : oK p s m meth c Z own by0 ml ret nm) {o : Int} {x y : Int32} {pc3 : Nat} (hd : decode by0 pc = .ok (.if_icmp .lt o, 3)) (ho : 0 ≤ (pc : Int) + o) (hp : ((pc : Int) + o).toNat = pc') (h3 : pc + 3 = pc3) (hy : x < y → oW p l e R s m args below meth c Z h0 P ds cells slots pc' Ls S) (hn : ¬ x < y → oW p l e R s m args below meth c Z h0 P ds cells slots pc3 Ls S) : oW p l e R s m args below meth c Z h0 P ds cells slots pc Ls (.int y :: .int x :: S) :=
  oW.icc K hd ho hp h3 (fun q => hy (oH_lt.1 q)) (fun q => hn (oH_lt.2 q))
theorem oW.if_ge (K : oK p s m meth c Z own by0 ml ret nm) {o : Int} {x : Int32} {pc3 : Nat} (hd : decode by0 pc = .ok (.ifCond .ge o, 3)) (ho : 0 ≤ (pc : Int) + o) (hp : ((pc : Int) + o).toNat = pc') (h3 : pc + 3 = pc3) (hy : ¬ x < 0 → oW p l e R s m args below meth c Z h0 P ds cells slots pc' Ls S) (hn : x < 0 → oW p l e R s m args below meth c Z h0 P ds cells slots pc3 Ls S) : oW p l e R s m args below meth c Z h0 P ds cells slots pc Ls (.int x :: S) :=
  oW.ifc K hd ho hp h3 (fun q => hy (oH_ge.1 q)) (fun q => hn (oH_ge.2 q))
theorem oW.icmp_ge (K : oK p s m meth c Z own by0 ml ret nm) {o : Int} {x y : Int32} {pc3 : Nat} (hd : decode by0 pc = .ok (.if_icmp .ge o, 3)) (ho : 0 ≤ (pc : Int) + o) (hp : ((pc : Int) + o).toNat = pc') (h3 : pc + 3 = pc3) (hy : ¬ x < y → oW p l e R s m args below meth c Z h0 P ds cells slots pc' Ls S) (hn : x < y → oW p l e R s m args below meth c Z h0 P ds cells slots pc3 Ls S) : oW p l e R s m args below meth c Z h0 P ds cells slots pc Ls (.int y :: .int x :: S) :=
  oW.icc K hd ho hp h3 (fun q => hy (oH_ge.1 q)) (fun q => hn (oH_ge.2 q))
theorem oW.if_gt (K : oK p s m meth c Z own by0 ml ret nm) {o : Int} {x : Int32} {pc3 : Nat} (hd : decode by0 pc = .ok (.ifCond .gt o, 3)) (ho : 0 ≤ (pc : Int) + o) (hp : ((pc : Int) + o).toNat = pc') (h3 : pc + 3 = pc3) (hy : 0 < x → oW p l e R s m args below meth c Z h0 P ds cells slots pc' Ls S) (hn : ¬ 0 < x → oW p l e R s m args below meth c Z h0 P ds cells slots pc3 Ls S) : oW p l e R s m args below meth c Z h0 P ds cells slots pc Ls (.int x :: S) :=
  oW.ifc K hd ho hp h3 (fun q => hy (oH_gt.1 q)) (fun q => hn (oH_gt.2 q))
theorem oW.icmp_gt (K : oK p s m meth c Z own by0 ml ret nm) {o : Int} {x y : Int32} {pc3 : Nat} (hd : decode by0 pc = .ok (.if_icmp .gt o, 3)) (ho : 0 ≤ (pc : Int) + o) (hp : ((pc : Int) + o).toNat = pc') (h3 : pc + 3 = pc3) (hy : y < x → oW p l e R s m args below meth c Z h0 P ds cells slots pc' Ls S) (hn : ¬ y < x → oW p l e R s m args below meth c Z h0 P ds cells slots pc3 Ls S) : oW p l e R s m args below meth c Z h0 P ds cells slots pc Ls (.int y :: .int x :: S) :=
  oW.icc K hd ho hp h3 (fun q => hy (oH_gt.1 q)) (fun q => hn (oH_gt.2 q))
theorem oW.if_le (K : oK p s m meth c Z own by0 ml ret nm) {o : Int} {x : Int32} {pc3 : Nat} (hd : decode by0 pc = .ok (.ifCond .le o, 3)) (ho : 0 ≤ (pc : Int) + o) (hp : ((pc : Int) + o).toNat = pc') (h3 : pc + 3 = pc3) (hy : ¬ 0 < x → oW p l e R s m args below meth c Z h0 P ds cells slots pc' Ls S) (hn : 0 < x → oW p l e R s m args below meth c Z h0 P ds cells slots pc3 Ls S) : oW p l e R s m args below meth c Z h0 P ds cells slots pc Ls (.int x :: S) :=
  oW.ifc K hd ho hp h3 (fun q => hy (oH_le.1 q)) (fun q => hn (oH_le.2 q))
theorem oW.icmp_le (K : oK p s m meth c Z own by0 ml ret nm) {o : Int} {x y : Int32} {pc3 : Nat} (hd : decode by0 pc = .ok (.if_icmp .le o, 3)) (ho : 0 ≤ (pc : Int) + o) (hp : ((pc : Int) + o).toNat = pc') (h3 : pc + 3 = pc3) (hy : ¬ y < x → oW p l e R s m args below meth c Z h0 P ds cells slots pc' Ls S) (hn : y < x → oW p l e R s m args below meth c Z h0 P ds cells slots pc3 Ls S) : oW p l e R s m args below meth c Z h0 P ds cells slots pc Ls (.int y :: .int x :: S) :=
  oW.icc K hd ho hp h3 (fun q => hy (oH_le.1 q)) (fun q => hn (oH_le.2 q))
theorem oW.if_eq (K : oK p s m meth c Z own by0 ml ret nm) {o : Int} {x : Int32} {pc3 : Nat} (hd : decode by0 pc = .ok (.ifCond .eq o, 3)) (ho : 0 ≤ (pc : Int) + o) (hp : ((pc : Int) + o).toNat = pc') (h3 : pc + 3 = pc3) (hy : x = 0 → oW p l e R s m args below meth c Z h0 P ds cells slots pc' Ls S) (hn : ¬ x = 0 → oW p l e R s m args below meth c Z h0 P ds cells slots pc3 Ls S) : oW p l e R s m args below meth c Z h0 P ds cells slots pc Ls (.int x :: S) :=
  oW.ifc K hd ho hp h3 (fun q => hy (oH_eq.1 q)) (fun q => hn (oH_eq.2 q))
theorem oW.icmp_eq (K : oK p s m meth c Z own by0 ml ret nm) {o : Int} {x y : Int32} {pc3 : Nat} (hd : decode by0 pc = .ok (.if_icmp .eq o, 3)) (ho : 0 ≤ (pc : Int) + o) (hp : ((pc : Int) + o).toNat = pc') (h3 : pc + 3 = pc3) (hy : x = y → oW p l e R s m args below meth c Z h0 P ds cells slots pc' Ls S) (hn : ¬ x = y → oW p l e R s m args below meth c Z h0 P ds cells slots pc3 Ls S) : oW p l e R s m args below meth c Z h0 P ds cells slots pc Ls (.int y :: .int x :: S) :=
  oW.icc K hd ho hp h3 (fun q => hy (oH_eq.1 q)) (fun q => hn (oH_eq.2 q))
theorem oW.if_ne (K : oK p s m meth c Z own by0 ml ret nm) {o : Int} {x : Int32} {pc3 : Nat} (hd : decode by0 pc = .ok (.ifCond .ne o, 3)) (ho : 0 ≤ (pc : Int) + o) (hp : ((pc : Int) + o).toNat = pc') (h3 : pc + 3 = pc3) (hy : ¬ x = 0 → oW p l e R s m args below meth c Z h0 P ds cells slots pc' Ls S) (hn : x = 0 → oW p l e R s m args below meth c Z h0 P ds cells slots pc3 Ls S) : oW p l e R s m args below meth c Z h0 P ds cells slots pc Ls (.int x :: S) :=
  oW.ifc K hd ho hp h3 (fun q => hy (oH_ne.1 q)) (fun q => hn (oH_ne.2 q))
theorem oW.icmp_ne (K : oK p s m meth c Z own by0 ml ret nm) {o : Int} {x y : Int32} {pc3 : Nat} (hd : decode by0 pc = .ok (.if_icmp .ne o, 3)) (ho : 0 ≤ (pc : Int) + o) (hp : ((pc : Int) + o).toNat = pc') (h3 : pc + 3 = pc3) (hy : ¬ x = y → oW p l e R s m args below meth c Z h0 P ds cells slots pc' Ls S) (hn : x = y → oW p l e R s m args below meth c Z h0 P ds cells slots pc3 Ls S) : oW p l e R s m args below meth c Z h0 P ds cells slots pc Ls (.int y :: .int x :: S) :=
  oW.icc K hd ho hp h3 (fun q => hy (oH_ne.1 q)) (fun q => hn (oH_ne.2 q))
theorem oW.ifnullNo (K : oK p s m meth c Z own by0 ml ret nm) {o : Int} {b : Addr} (hd : decode by0 pc = .ok (.ifnull o, 3)) (hp : pc + 3 = pc') (hr : oW p l e R s m args below meth c Z h0 P ds cells slots pc' Ls S) : oW p l e R s m args below meth c Z h0 P ds cells slots pc Ls (.ref b :: S) := by
  subst hp
  exact oW.pure (fun T locs X t k => XS.ifnullNo X.here K.1.1 rfl (hb K.1.2.2.1 hd) rfl k) hr
theorem oW.ifnullYes (K : oK p s m meth c Z own by0 ml ret nm) {o : Int} (hd : decode by0 pc = .ok (.ifnull o, 3)) (ho : 0 ≤ (pc : Int) + o) (hp : ((pc : Int) + o).toNat = pc') (hr : oW p l e R s m args below meth c Z h0 P ds cells slots pc' Ls S) : oW p l e R s m args below meth c Z h0 P ds cells slots pc Ls (.null :: S) :=
  oW.pure (fun T locs X t k => XS.ifnullYes X.here K.1.1 rfl rfl (hb K.1.2.2.1 hd) rfl ho hp k) hr
theorem oW.ifnonnullYes (K : oK p s m meth c Z own by0 ml ret nm) {o : Int} {b : Addr} (hd : decode by0 pc = .ok (.ifnonnull o, 3)) (ho : 0 ≤ (pc : Int) + o) (hp : ((pc : Int) + o).toNat = pc') (hr : oW p l e R s m args below meth c Z h0 P ds cells slots pc' Ls S) : oW p l e R s m args below meth c Z h0 P ds cells slots pc Ls (.ref b :: S) :=
  oW.pure (fun T locs X t k => XT.ifnonnullYes X.here K.1.1 rfl rfl (hb K.1.2.2.1 hd) rfl ho hp k) hr
theorem oW.ldcI (K : oK p s m meth c Z own by0 ml ret nm) {index : Nat} {v : Int32} (w : (Jvm.Cond.constant own index v).before a0 Z = true) (hd : decode by0 pc = .ok (.ldc index, 2)) (hp : pc + 2 = pc') (hr : oW p l e R s m args below meth c Z h0 P ds cells slots pc' Ls (.int v :: S)) : oW p l e R s m args below meth c Z h0 P ds cells slots pc Ls S := by
  subst hp
  exact oW.pure (fun T locs X t k => X.ldcInt K.1.1 K.2.1 (mv K.1.2.1 w) (g := mkF m pc Ls S) rfl (hb K.1.2.2.1 hd) t k) hr
theorem oW.ldc2D (K : oK p s m meth c Z own by0 ml ret nm) {index : Nat} {v : UInt64} (w : (Jvm.Cond.constantDouble own index v).before a0 Z = true) (hd : decode by0 pc = .ok (.ldc2_w index, 3)) (hp : pc + 3 = pc') (hr : oW p l e R s m args below meth c Z h0 P ds cells slots pc' Ls (.double v :: S)) : oW p l e R s m args below meth c Z h0 P ds cells slots pc Ls S := by
  subst hp
  exact oW.pure (fun T locs X t k => X.ldc2DoubleC K.1.1 K.2.1 (mv K.1.2.1 w) (g := mkF m pc Ls S) rfl (hb K.1.2.2.1 hd) t k) hr
theorem oW.ldc2L (K : oK p s m meth c Z own by0 ml ret nm) {index : Nat} {v : Int64} (w : (Jvm.Cond.constantLong own index v).before a0 Z = true) (hd : decode by0 pc = .ok (.ldc2_w index, 3)) (hp : pc + 3 = pc') (hr : oW p l e R s m args below meth c Z h0 P ds cells slots pc' Ls (.long v :: S)) : oW p l e R s m args below meth c Z h0 P ds cells slots pc Ls S := by
  subst hp
  exact oW.pure (fun T locs X t k => X.ldc2Long K.1.1 K.2.1 (mv K.1.2.1 w) (g := mkF m pc Ls S) rfl (hb K.1.2.2.1 hd) t k) hr
theorem oLen {vs : List Value} {j : Int32} {k : Nat} {v : Value} {c : Cell} (hj : j = Int32.ofNat k) (hk : k < 2 ^ 31) (hv : vs[k]? = some v) (hs : c.slots = vs.toArray) : ¬ (j < 0 ∨ c.slots.size ≤ j.toNatClampNeg) ∧ c.slots[j.toNatClampNeg]? = some v := by
  subst hj
  have e : (Int32.ofNat k).toNatClampNeg = k := Int32.toNatClampNeg_ofNat_of_lt hk
  have l := (List.getElem?_eq_some_iff.mp hv).1
  rw [e, hs]
  refine ⟨fun q => q.elim (Int32.ofNat_not_neg hk) (fun r => by simp at r; omega), by simpa using hv⟩
theorem oW.iaload (K : oK p s m meth c Z own by0 ml ret nm) {i k : Nat} {a : Addr} {vs : List Value} {j : Int32} {v : Value} (hd : decode by0 pc = .ok (.iaload, 1)) (hi : ds[i]? = some (a, .inl (.int, vs))) (hj : j = Int32.ofNat k) (hk : k < 2 ^ 31) (hv : vs[k]? = some v) (hp : pc + 1 = pc') (hr : oW p l e R s m args below meth c Z h0 P ds cells slots pc' Ls (v :: S)) : oW p l e R s m args below meth c Z h0 P ds cells slots pc Ls (.int j :: .ref a :: S) := by
  subst hp
  rintro T ⟨locs, X, N, M⟩
  obtain ⟨cl, A, hs⟩ := (M.2.2 i _ hi).2
  obtain ⟨q1, q2⟩ := oLen hj hk hv hs
  exact oW.ends (fun t k => X.iaload K.1.1 A.1 (State.isArrayOf_alike K.1.2.1.alike A.2.1) A.2.2 q1 q2 (g := mkF m pc Ls (.int j :: .ref a :: S)) rfl rfl (hb K.1.2.2.1 hd) t k) (hr T ⟨locs, X, N, M⟩)
theorem oW.daload (K : oK p s m meth c Z own by0 ml ret nm) {i k : Nat} {a : Addr} {vs : List Value} {j : Int32} {v : Value} (hd : decode by0 pc = .ok (.daload, 1)) (hi : ds[i]? = some (a, .inl (.double, vs))) (hj : j = Int32.ofNat k) (hk : k < 2 ^ 31) (hv : vs[k]? = some v) (hp : pc + 1 = pc') (hr : oW p l e R s m args below meth c Z h0 P ds cells slots pc' Ls (v :: S)) : oW p l e R s m args below meth c Z h0 P ds cells slots pc Ls (.int j :: .ref a :: S) := by
  subst hp
  rintro T ⟨locs, X, N, M⟩
  obtain ⟨cl, A, hs⟩ := (M.2.2 i _ hi).2
  obtain ⟨q1, q2⟩ := oLen hj hk hv hs
  exact oW.ends (fun t k => X.daload K.1.1 A.1 (State.isArrayOf_alike K.1.2.1.alike A.2.1) A.2.2 q1 q2 (g := mkF m pc Ls (.int j :: .ref a :: S)) rfl rfl (hb K.1.2.2.1 hd) t k) (hr T ⟨locs, X, N, M⟩)
theorem oW.laload (K : oK p s m meth c Z own by0 ml ret nm) {i k : Nat} {a : Addr} {vs : List Value} {j : Int32} {v : Value} (hd : decode by0 pc = .ok (.laload, 1)) (hi : ds[i]? = some (a, .inl (.long, vs))) (hj : j = Int32.ofNat k) (hk : k < 2 ^ 31) (hv : vs[k]? = some v) (hp : pc + 1 = pc') (hr : oW p l e R s m args below meth c Z h0 P ds cells slots pc' Ls (v :: S)) : oW p l e R s m args below meth c Z h0 P ds cells slots pc Ls (.int j :: .ref a :: S) := by
  subst hp
  rintro T ⟨locs, X, N, M⟩
  obtain ⟨cl, A, hs⟩ := (M.2.2 i _ hi).2
  obtain ⟨q1, q2⟩ := oLen hj hk hv hs
  exact oW.ends (fun t k => X.laload K.1.1 A.1 (State.isArrayOf_alike K.1.2.1.alike A.2.1) A.2.2 q1 q2 (g := mkF m pc Ls (.int j :: .ref a :: S)) rfl rfl (hb K.1.2.2.1 hd) t k) (hr T ⟨locs, X, N, M⟩)
theorem oW.iastore (K : oK p s m meth c Z own by0 ml ret nm) {i k : Nat} {a : Addr} {vs : List Value} {j : Int32} {x : Int32} (hd : decode by0 pc = .ok (.iastore, 1)) (hi : ds[i]? = some (a, .inl (.int, vs))) (hj : j = Int32.ofNat k) (hk : k < 2 ^ 31) (hl : k < vs.length) (hds : ds.set i (a, .inl (.int, vs.set k (.int x))) = ds') (hp : pc + 1 = pc') (hr : oW p l e R s m args below meth c Z h0 P ds' cells slots pc' Ls S) : oW p l e R s m args below meth c Z h0 P ds cells slots pc Ls (.int x :: .int j :: .ref a :: S) := by
  subst hp hds
  rintro T ⟨locs, X, N, M⟩
  obtain ⟨ha, cl, A, hs⟩ := M.2.2 i _ hi
  obtain ⟨q1, q2⟩ := oLen hj hk (List.getElem?_eq_getElem hl) hs
  obtain ⟨T', h', X', e', Wr', st⟩ := stI X K.1.1 K.1.2.1 rfl A (x := x) q1 (g := mkF m pc Ls (.int x :: .int j :: .ref a :: S)) rfl rfl (hb K.1.2.2.1 hd)
  have ek : j.toNatClampNeg = k := by subst hj; exact Int32.toNatClampNeg_ofNat_of_lt hk
  refine oW.ends st (hr T' ⟨_, X', Fr.snoc X' N ha, ?_⟩)
  rw [e']
  refine M.put hi Wr' ⟨_, A.same Wr', ?_⟩
  rw [ek]; simp [Cell.setSlot, hs]
theorem oW.dastore (K : oK p s m meth c Z own by0 ml ret nm) {i k : Nat} {a : Addr} {vs : List Value} {j : Int32} {x : UInt64} (hd : decode by0 pc = .ok (.dastore, 1)) (hi : ds[i]? = some (a, .inl (.double, vs))) (hj : j = Int32.ofNat k) (hk : k < 2 ^ 31) (hl : k < vs.length) (hds : ds.set i (a, .inl (.double, vs.set k (.double x))) = ds') (hp : pc + 1 = pc') (hr : oW p l e R s m args below meth c Z h0 P ds' cells slots pc' Ls S) : oW p l e R s m args below meth c Z h0 P ds cells slots pc Ls (.double x :: .int j :: .ref a :: S) := by
  subst hp hds
  rintro T ⟨locs, X, N, M⟩
  obtain ⟨ha, cl, A, hs⟩ := M.2.2 i _ hi
  obtain ⟨q1, q2⟩ := oLen hj hk (List.getElem?_eq_getElem hl) hs
  obtain ⟨T', h', X', e', Wr', st⟩ := stD X K.1.1 K.1.2.1 rfl A (x := x) q1 (g := mkF m pc Ls (.double x :: .int j :: .ref a :: S)) rfl rfl (hb K.1.2.2.1 hd)
  have ek : j.toNatClampNeg = k := by subst hj; exact Int32.toNatClampNeg_ofNat_of_lt hk
  refine oW.ends st (hr T' ⟨_, X', Fr.snoc X' N ha, ?_⟩)
  rw [e']
  refine M.put hi Wr' ⟨_, A.same Wr', ?_⟩
  rw [ek]; simp [Cell.setSlot, hs]
theorem oW.lastore (K : oK p s m meth c Z own by0 ml ret nm) {i k : Nat} {a : Addr} {vs : List Value} {j : Int32} {x : Int64} (hd : decode by0 pc = .ok (.lastore, 1)) (hi : ds[i]? = some (a, .inl (.long, vs))) (hj : j = Int32.ofNat k) (hk : k < 2 ^ 31) (hl : k < vs.length) (hds : ds.set i (a, .inl (.long, vs.set k (.long x))) = ds') (hp : pc + 1 = pc') (hr : oW p l e R s m args below meth c Z h0 P ds' cells slots pc' Ls S) : oW p l e R s m args below meth c Z h0 P ds cells slots pc Ls (.long x :: .int j :: .ref a :: S) := by
  subst hp hds
  rintro T ⟨locs, X, N, M⟩
  obtain ⟨ha, cl, A, hs⟩ := M.2.2 i _ hi
  obtain ⟨q1, q2⟩ := oLen hj hk (List.getElem?_eq_getElem hl) hs
  obtain ⟨T', h', X', e', Wr', st⟩ := stJ X K.1.1 K.1.2.1 rfl A (x := x) q1 (g := mkF m pc Ls (.long x :: .int j :: .ref a :: S)) rfl rfl (hb K.1.2.2.1 hd)
  have ek : j.toNatClampNeg = k := by subst hj; exact Int32.toNatClampNeg_ofNat_of_lt hk
  refine oW.ends st (hr T' ⟨_, X', Fr.snoc X' N ha, ?_⟩)
  rw [e']
  refine M.put hi Wr' ⟨_, A.same Wr', ?_⟩
  rw [ek]; simp [Cell.setSlot, hs]
theorem oW.alen (K : oK p s m meth c Z own by0 ml ret nm) {i : Nat} {a : Addr} {ty : FieldType} {vs : List Value} {v : Int32} (hd : decode by0 pc = .ok (.arraylength, 1)) (hi : ds[i]? = some (a, .inl (ty, vs))) (hv : v = Int32.ofNat vs.length) (hp : pc + 1 = pc') (hr : oW p l e R s m args below meth c Z h0 P ds cells slots pc' Ls (.int v :: S)) : oW p l e R s m args below meth c Z h0 P ds cells slots pc Ls (.ref a :: S) := by
  subst hp
  rintro T ⟨locs, X, N, M⟩
  obtain ⟨cl, A, hs⟩ := (M.2.2 i _ hi).2
  have ev : v = cl.slots.size.toInt32 := by rw [hv, hs]; simp
  subst ev
  exact oW.ends (fun t k => X.arraylength K.1.1 A.1 (State.isArrayOf_alike K.1.2.1.alike A.2.1) (g := mkF m pc Ls (.ref a :: S)) rfl rfl (hb K.1.2.2.1 hd) t k) (hr T ⟨locs, X, N, M⟩)
theorem oW.newarr (K : oK p s m meth c Z own by0 ml ret nm) {aty : ArrayType} {j : Int32} {n : Nat} (w : (Jvm.Cond.arrayClass (newarray.typeOf aty)).before a0 Z = true) (hd : decode by0 pc = .ok (.newarray aty, 2)) (hj : j = Int32.ofNat n) (hn : n < 2 ^ 31) (hb8 : n * 8 ≤ 536870912) (hc : cells + 1 ≤ R.cells) (hs : slots + n ≤ R.slots) {cells' slots' : Nat} (hc' : cells + 1 = cells') (hs' : slots + n = slots') {dsf : Addr → oDs} (hds : ∀ a, ds ++ [(a, .inl (newarray.typeOf aty, List.replicate n (defaultValue (newarray.typeOf aty))))] = dsf a) (hp : pc + 2 = pc')
    (hr : ∀ a : Addr, h0.size ≤ a → oW p l e R s m args below meth c Z h0 P (dsf a) cells' slots' pc' Ls (.ref a :: S)) : oW p l e R s m args below meth c Z h0 P ds cells slots pc Ls (.int j :: S) := by
  subst hp hc' hs'
  rintro T ⟨locs, X, N, M⟩
  have ej : j.toNatClampNeg = n := by subst hj; exact Int32.toNatClampNeg_ofNat_of_lt hn
  obtain ⟨T', h', k, X', e', E', A', st⟩ := newP X K.1.1 K.1.2.1 w rfl (g := mkF m pc Ls (.int j :: S)) rfl (hb K.1.2.2.1 hd) rfl (by subst hj; exact Int32.ofNat_not_neg hn) (cap := n) (Nat.le_of_eq ej) hb8 hc hs
  refine oW.ends st (hr T.heap.size M.1.1 T' ⟨_, X', N, ?_⟩)
  rw [e', ← hds]
  refine M.push E' ⟨_, A', ?_⟩
  simp [newA, ej]
theorem oW.new (K : oK p s m meth c Z own by0 ml ret nm) {index n : Nat} {C : String} {fs : List (String × String × String × Value)} (w : (Jvm.Cond.classLink own index C).before a0 Z = true) (wi : (Jvm.Cond.instantiable C n).before a0 Z = true) (wz : (Jvm.Cond.initialized C).before a0 Z = true) (hL : ∀ f ∈ fs, Laid Z a0 C f.1 f.2.1 f.2.2.1 ∧ ∃ t, parseFieldDescriptor f.2.2.1 = some t ∧ f.2.2.2 = defaultValue t) (hd : decode by0 pc = .ok (.new index, 3)) (hc : cells + 1 ≤ R.cells) (hs : slots + n ≤ R.slots) {cells' slots' : Nat} (hc' : cells + 1 = cells') (hs' : slots + n = slots') {dsf : Addr → oDs} (hds : ∀ a, ds ++ [(a, .inr (C, fs))] = dsf a) (hp : pc + 3 = pc')
    (hr : ∀ a : Addr, h0.size ≤ a → oW p l e R s m args below meth c Z h0 P (dsf a) cells' slots' pc' Ls (.ref a :: S)) : oW p l e R s m args below meth c Z h0 P ds cells slots pc Ls S := by
  subst hp hc' hs'
  rintro T ⟨locs, X, N, M⟩
  obtain ⟨T', h', X', e', E', A', D', -, st⟩ := newO X K.1.1 K.1.2.1 K.2.1 w wi wz rfl (g := mkF m pc Ls S) rfl (hb K.1.2.2.1 hd) hc hs
  refine oW.ends st (hr T.heap.size M.1.1 T' ⟨_, X', N, ?_⟩)
  rw [e', ← hds]
  refine M.push E' ⟨A', fun f hf => ?_⟩
  obtain ⟨L, t, h1, h2⟩ := hL f hf
  rw [h2]; exact D' L h1
theorem oW.getf (K : oK p s m meth c Z own by0 ml ret nm) {index i q : Nat} {a : Addr} {C O n d : String} {fs : List (String × String × String × Value)} {v : Value} (w : (Jvm.Cond.fieldLink own index O n d).before a0 Z = true) (hd : decode by0 pc = .ok (.getfield index, 3)) (hi : ds[i]? = some (a, .inr (C, fs))) (hf : fs[q]? = some (O, n, d, v)) (hp : pc + 3 = pc') (hr : oW p l e R s m args below meth c Z h0 P ds cells slots pc' Ls (v :: S)) : oW p l e R s m args below meth c Z h0 P ds cells slots pc Ls (.ref a :: S) := by
  subst hp
  rintro T ⟨locs, X, N, M⟩
  obtain ⟨ha, hE, hF⟩ := M.2.2 i _ hi
  obtain ⟨T', X', e', st⟩ := getF X K.1.1 K.1.2.1 K.2.1 (host := "") (Or.inl w) Via.refl rfl (hF _ (List.mem_of_getElem? hf)) (g := mkF m pc Ls (.ref a :: S)) rfl rfl (hb K.1.2.2.1 hd)
  exact oW.ends st (hr T' ⟨_, X', N, by rw [e']; exact M⟩)
theorem oW.putf (K : oK p s m meth c Z own by0 ml ret nm) {index i q kk : Nat} {a : Addr} {C O n d : String} {fs : List (String × String × String × Value)} {v old : Value} {ty : FieldType} (w : (Jvm.Cond.fieldLink own index O n d).before a0 Z = true) (L : (Jvm.Cond.lays C O n d).before a0 Z = true ∨ ((Jvm.Cond.laysFinal C O n d).before a0 Z = true ∧ own = O ∧ nm = "<init>")) (wi : (Jvm.Cond.instantiable C kk).before a0 Z = true) (hap : oApart Z fs) (hd : decode by0 pc = .ok (.putfield index, 3)) (hi : ds[i]? = some (a, .inr (C, fs))) (hf : fs[q]? = some (O, n, d, old)) (hty : parseFieldDescriptor d = some ty) (hn : narrow ty v = v) (hfit : fits ty v = true) (hds : ds.set i (a, .inr (C, fs.set q (O, n, d, v))) = ds') (hp : pc + 3 = pc') (hr : oW p l e R s m args below meth c Z h0 P ds' cells slots pc' Ls S) : oW p l e R s m args below meth c Z h0 P ds cells slots pc Ls (v :: .ref a :: S) := by
  subst hp hds
  rintro T ⟨locs, X, N, M⟩
  obtain ⟨ha, hE, hF⟩ := M.2.2 i _ hi
  have hFq := hF _ (List.mem_of_getElem? hf)
  obtain ⟨T', h', X', e', Wr', st⟩ := putF X K.1.1 K.1.2.1 K.2.1 (host := "") (Or.inl w) Via.refl rfl hFq hE (L.imp id fun r => ⟨r.1, r.2.1, K.2.2.2.2.trans r.2.2⟩) wi hty hn hfit (g := mkF m pc Ls (v :: .ref a :: S)) rfl rfl (hb K.1.2.2.1 hd)
  refine oW.ends st (hr T' ⟨_, X', Fr.snoc X' N ha, ?_⟩)
  rw [e']
  refine M.put hi Wr' ⟨hE.wr Wr', fun f hf' => ?_⟩
  obtain ⟨r, hr'⟩ := List.getElem?_of_mem hf'
  rw [List.getElem?_set] at hr'
  split at hr'
  · rename_i er
    subst er
    rw [if_pos (List.getElem?_eq_some_iff.mp hf).1] at hr'
    cases hr'
    exact hFq.same Wr'
  · rename_i er
    have hh := hap r q f (O, n, d, old) (Ne.symm er) hr' hf
    exact (hF f (List.mem_of_getElem? hr')).other Wr' (Or.inr hh)
theorem oW.getst (K : oK p s m meth c Z own by0 ml ret nm) {index : Nat} {O n d : String} {v : Value} (w : (Jvm.Cond.fieldLink own index O n d).before a0 Z = true) (F : Sta Z h0 O n d v) (hd : decode by0 pc = .ok (.getstatic index, 3)) (hp : pc + 3 = pc') (hr : oW p l e R s m args below meth c Z h0 P ds cells slots pc' Ls (v :: S)) : oW p l e R s m args below meth c Z h0 P ds cells slots pc Ls S := by
  subst hp
  rintro T ⟨locs, X, N, M⟩
  obtain ⟨T', X', e', st⟩ := getS2 X K.1.1 K.1.2.1 K.2.1 (host := "") (Or.inl w) Via.refl rfl (F.ext M.1) (g := mkF m pc Ls S) rfl (hb K.1.2.2.1 hd)
  exact oW.ends st (hr T' ⟨_, X', N, by rw [e']; exact M⟩)
theorem oW.initO (K : oK p s m meth c Z own by0 ml ret nm) {idx : Nat} {a : Addr} {W : Nat} (w1 : (Jvm.Cond.methodLink own idx Lib.objectInit).before a0 Z = true) (w2 : (Jvm.Cond.instanceMethod Lib.objectInit).before a0 Z = true) (w3 : (Jvm.Cond.code Lib.objectInit ⟨#[0xb1]⟩ 1 none).before a0 Z = true) (hd : decode by0 pc = .ok (.invokespecial idx, 3)) (hsz : Ls.size = ml) (hf : 1 ≤ R.frames) (hW : (S.map fun v => v.category).sum ≤ W) (hl : W + 12 ≤ R.locals) (hp : pc + 3 = pc') (hr : oW p l e R s m args below meth c Z h0 P ds cells slots pc' Ls S) : oW p l e R s m args below meth c Z h0 P ds cells slots pc Ls (.ref a :: S) := by
  subst hp
  rintro T ⟨locs, X, N, M⟩
  obtain ⟨T', X', e', st⟩ := Jvm.RoadKit.initO X K.1.1 K.1.2.1 K.2.1 w1 w2 w3 rfl (g := mkF m pc Ls (.ref a :: S)) rfl (hsz.trans K.1.2.2.2.symm) rfl (hb K.1.2.2.1 hd) hf (W := W) (by show 2 * 0 + _ ≤ _; omega) hl
  exact oW.ends st (hr T' ⟨_, X', N, by rw [e']; exact M⟩)
theorem oW.leave (K : oK p s m meth c Z own by0 ml ret nm) {v : Option Value} (hv : ret = none → v = none) (hc : cells ≤ R.cells) (hs : slots ≤ R.slots) (hP : P v ds)
    (st : ∀ (T : State) (locs : List Loc) (fs : List Frame), Stand p l e R s m args below meth c T locs cells slots → (∀ (f : JFrame) (acts : List Action), f.method = m → f.locked = none → f.entered = [] → (doReturn e (T.setTop f) acts v).1 = T.setFrames fs) → Steps p.tables e below (T.setTop (mkF m pc Ls S)) (T.setFrames fs)) : oW p l e R s m args below meth c Z h0 P ds cells slots pc Ls S := by
  rintro T ⟨locs, X, N, M⟩
  obtain ⟨fs, hr, hrun, hended, hW, hsame⟩ := X.leave (v := v) (fun h => hv (K.2.2.1.symm.trans h)) K.2.2.2.1
  exact ⟨_, _, st T locs fs X hr, hrun, hended, v, locs, rfl, ⟨N, ds, hP, M⟩, ⟨_, rfl⟩, hW, hsame.mono hc hs⟩
theorem oW.retB (K : oK p s m meth c Z own by0 ml ret nm) {z : Int32} (hret : ret = some .boolean) (hd : decode by0 pc = .ok (.ireturn, 1)) (hc : cells ≤ R.cells) (hs : slots ≤ R.slots) (hP : P (some (.int (nar .boolean z))) ds) : oW p l e R s m args below meth c Z h0 P ds cells slots pc Ls (.int z :: S) :=
  oW.leave K (by rw [hret]; intro h; cases h) hc hs hP fun T locs fs X hr => retN X K.1.1 (t := .boolean) (K.2.2.1.trans hret) (Or.inl rfl) (hb K.1.2.2.1 hd) hr
theorem oW.retI (K : oK p s m meth c Z own by0 ml ret nm) {z : Int32} (hret : ret = some .int) (hd : decode by0 pc = .ok (.ireturn, 1)) (hc : cells ≤ R.cells) (hs : slots ≤ R.slots) (hP : P (some (.int z)) ds) : oW p l e R s m args below meth c Z h0 P ds cells slots pc Ls (.int z :: S) :=
  oW.leave K (by rw [hret]; intro h; cases h) hc hs hP fun T locs fs X hr => retOut X K.1.1 (K.2.2.1.trans hret) rfl (Or.inl ⟨rfl, Or.inl rfl, _, rfl⟩) (hb K.1.2.2.1 hd) hr
theorem oW.retJ (K : oK p s m meth c Z own by0 ml ret nm) {z : Int64} (hret : ret = some .long) (hd : decode by0 pc = .ok (.lreturn, 1)) (hc : cells ≤ R.cells) (hs : slots ≤ R.slots) (hP : P (some (.long z)) ds) : oW p l e R s m args below meth c Z h0 P ds cells slots pc Ls (.long z :: S) :=
  oW.leave K (by rw [hret]; intro h; cases h) hc hs hP fun T locs fs X hr => retOut X K.1.1 (K.2.2.1.trans hret) rfl (Or.inr (Or.inl ⟨rfl, rfl, _, rfl⟩)) (hb K.1.2.2.1 hd) hr
theorem oW.retD (K : oK p s m meth c Z own by0 ml ret nm) {z : UInt64} (hret : ret = some .double) (hd : decode by0 pc = .ok (.dreturn, 1)) (hc : cells ≤ R.cells) (hs : slots ≤ R.slots) (hP : P (some (.double z)) ds) : oW p l e R s m args below meth c Z h0 P ds cells slots pc Ls (.double z :: S) :=
  oW.leave K (by rw [hret]; intro h; cases h) hc hs hP fun T locs fs X hr => retOut X K.1.1 (K.2.2.1.trans hret) rfl (Or.inr (Or.inr (Or.inl ⟨rfl, rfl, _, rfl⟩))) (hb K.1.2.2.1 hd) hr
theorem oW.retA (K : oK p s m meth c Z own by0 ml ret nm) {a : Addr} {t : FieldType} (hret : ret = some t) (ht : t.isReference = true) (hn : narrow t (.ref a) = .ref a) (hd : decode by0 pc = .ok (.areturn, 1)) (hc : cells ≤ R.cells) (hs : slots ≤ R.slots) (hP : P (some (.ref a)) ds) : oW p l e R s m args below meth c Z h0 P ds cells slots pc Ls (.ref a :: S) :=
  oW.leave K (by rw [hret]; intro h; cases h) hc hs hP fun T locs fs X hr => retOut X K.1.1 (K.2.2.1.trans hret) hn (Or.inr (Or.inr (Or.inr (Or.inr ⟨rfl, ht, rfl⟩)))) (hb K.1.2.2.1 hd) hr
theorem oW.retV (K : oK p s m meth c Z own by0 ml ret nm) (hret : ret = none) (hd : decode by0 pc = .ok (.return_, 1)) (hc : cells ≤ R.cells) (hs : slots ≤ R.slots) (hP : P none ds) : oW p l e R s m args below meth c Z h0 P ds cells slots pc Ls [] :=
  oW.leave K (fun _ => rfl) hc hs hP fun T locs fs X hr => X.returnOut K.1.1 (K.2.2.1.trans hret) (hb K.1.2.2.1 hd) hr
theorem oW.callS (K : oK p s m meth c Z own by0 ml ret nm) {y : MethodName} {index : Nat} {by1 : ByteArray} {ml1 : Nat} {rt1 : Option FieldType} {rm : Room} {argsL : List Value} {P2 : Value → oDs → Prop} {W : Nat} {cells' slots' : Nat}
    (w1 : (Jvm.Cond.methodLink own index y).before a0 Z = true) (w2 : (Jvm.Cond.static y).before a0 Z = true) (w3 : (Jvm.Cond.initialized y.cls).before a0 Z = true) (w4 : (Jvm.Cond.code y by1 ml1 rt1).before a0 Z = true) (hy : y.cls ≠ "java/lang/invoke/MethodHandle" ∧ y.cls ≠ "java/lang/invoke/VarHandle")
    (C : oCtr l Z h0 [] y by1 ml1 rt1 rm argsL.toArray ds (oVal P2)) (hlen : ∀ sig, parseMethodDescriptor y.desc = some sig → argsL.length = sig.parameters.length) (hd : decode by0 pc = .ok (.invokestatic index, 3)) (hst : S' = argsL.reverse ++ S) (hsz : Ls.size = ml) (hW : (S.map fun v => v.category).sum ≤ W) (hf : rm.frames + 1 ≤ R.frames) (hl : W + (ml1 + 11) + rm.locals ≤ R.locals) (hc : cells + rm.cells ≤ R.cells) (hs : slots + rm.slots ≤ R.slots) (hc' : cells + rm.cells = cells') (hs' : slots + rm.slots = slots') (hp : pc + 3 = pc')
    (hr : ∀ w ds', P2 w ds' → oW p l e R s m args below meth c Z h0 P ds' cells' slots' pc' Ls (w :: S)) : oW p l e R s m args below meth c Z h0 P ds cells slots pc Ls S' := by
  subst hp hst hc' hs'
  rintro T ⟨locs, X, N, M⟩
  obtain ⟨v, vm1, ⟨T', L', k', n'⟩, -, X', ⟨Lc, hQ, l', y', z'⟩, st⟩ := Jvm.LawKit.callS X K.1.1 K.2.1 (mvT K.1.2.1 w1) (mvT K.1.2.1 w2) (mvT K.1.2.1 w3) (mvT K.1.2.1 w4) hy (backOf (W := W) (Q := fun v hp L => Fr h0.size L ∧ ∃ ds', (oVal P2) v ds' ∧ oMem Z h0 hp ds') (C T.heap M) K.1.2.1 w4 w3 hf hl) (g := mkF m pc Ls (argsL.reverse ++ S)) rfl (hsz.trans K.1.2.2.2.symm) (argsL := argsL) (rest := S) hlen rfl (by show 2 * 0 + _ ≤ _; omega) (hb K.1.2.2.1 hd) (fun _ _ => ⟨rfl, rfl, hc, hs⟩)
  dsimp only [Pt.U, Pt.locs, Pt.cells, Pt.slots] at X' l' y' z' st hQ
  subst l' y' z'
  obtain ⟨N', ds', hP, M'⟩ := hQ
  obtain ⟨w, rfl, hP⟩ := hP
  exact oW.ends st (hr w ds' hP T' ⟨_, X', N.app N', M'⟩)
theorem oW.callV (K : oK p s m meth c Z own by0 ml ret nm) {y z : MethodName} {C : String} {index : Nat} {by1 : ByteArray} {ml1 : Nat} {rt1 : Option FieldType} {rm : Room} {a : Addr} {argsL : List Value} {P2 : Value → oDs → Prop} {W : Nat} {cells' slots' : Nat}
    (w1 : (Jvm.Cond.methodLink own index y).before a0 Z = true) (w2 : (Jvm.Cond.declares y).before a0 Z = true) (w3 : (Jvm.Cond.selects C y z).before a0 Z = true) (w4 : (Jvm.Cond.instanceMethod z).before a0 Z = true) (w5 : (Jvm.Cond.code z by1 ml1 rt1).before a0 Z = true) (w6 : (Jvm.Cond.initialized z.cls).before a0 Z = true) (hy : y.cls ≠ "java/lang/invoke/MethodHandle" ∧ y.cls ≠ "java/lang/invoke/VarHandle")
    (hnf : ∀ s : State, Z.Warmed39 s.vm → NotFace s y) (hE : ∀ h, oMem Z h0 h ds → Exa Z h a C) (Ct : oCtr l Z h0 [] z by1 ml1 rt1 rm (.ref a :: argsL).toArray ds (oVal P2)) (hlen : ∀ sig, parseMethodDescriptor y.desc = some sig → argsL.length = sig.parameters.length) (hd : decode by0 pc = .ok (.invokevirtual index, 3)) (hst : S' = argsL.reverse ++ .ref a :: S) (hsz : Ls.size = ml) (hW : (S.map fun v => v.category).sum ≤ W) (hf : rm.frames + 1 ≤ R.frames) (hl : W + (ml1 + 11) + rm.locals ≤ R.locals) (hc : cells + rm.cells ≤ R.cells) (hs : slots + rm.slots ≤ R.slots) (hc' : cells + rm.cells = cells') (hs' : slots + rm.slots = slots') (hp : pc + 3 = pc')
    (hr : ∀ w ds', P2 w ds' → oW p l e R s m args below meth c Z h0 P ds' cells' slots' pc' Ls (w :: S)) : oW p l e R s m args below meth c Z h0 P ds cells slots pc Ls S' := by
  subst hp hst hc' hs'
  rintro T ⟨locs, X, N, M⟩
  obtain ⟨cq, kq, qa, qb, qc⟩ := isOf K.1.2.1 rfl (hE T.heap M)
  have w3' : (Jvm.Cond.selects C y z).before args s = true := mvT K.1.2.1 w3
  obtain ⟨v, vm1, ⟨T', L', k', n'⟩, -, X', ⟨Lc, hQ, l', y', z'⟩, st⟩ := X.virtualBack K.1.1 K.2.1 (mvT K.1.2.1 w1) (mvT K.1.2.1 w2) (hnf s K.1.2.1) w3' (mvT K.1.2.1 w4) hy (backOf (W := W) (Q := fun v hp L => Fr h0.size L ∧ ∃ ds', (oVal P2) v ds' ∧ oMem Z h0 hp ds') (Ct T.heap M) K.1.2.1 w5 w6 hf hl) qa qc (g := mkF m pc Ls (argsL.reverse ++ .ref a :: S)) rfl (hsz.trans K.1.2.2.2.symm) (Steps.refl _) (argsL := argsL) (rest := S) hlen rfl (by show 2 * 0 + _ ≤ _; omega) (hb K.1.2.2.1 hd) (fun _ _ => ⟨rfl, rfl, hc, hs⟩)
  dsimp only [Pt.U, Pt.locs, Pt.cells, Pt.slots] at X' l' y' z' st hQ
  subst l' y' z'
  obtain ⟨N', ds', hP, M'⟩ := hQ
  obtain ⟨w, rfl, hP⟩ := hP
  exact oW.ends (fun t k => st.trans k) (hr w ds' hP T' ⟨_, X', N.app N', M'⟩)
theorem oW.callS0 (K : oK p s m meth c Z own by0 ml ret nm) {y : MethodName} {index : Nat} {by1 : ByteArray} {ml1 : Nat} {rt1 : Option FieldType} {rm : Room} {argsL : List Value} {P2 : oDs → Prop} {W : Nat} {cells' slots' : Nat}
    (w1 : (Jvm.Cond.methodLink own index y).before a0 Z = true) (w2 : (Jvm.Cond.static y).before a0 Z = true) (w3 : (Jvm.Cond.initialized y.cls).before a0 Z = true) (w4 : (Jvm.Cond.code y by1 ml1 rt1).before a0 Z = true) (hy : y.cls ≠ "java/lang/invoke/MethodHandle" ∧ y.cls ≠ "java/lang/invoke/VarHandle")
    (C : oCtr l Z h0 [] y by1 ml1 rt1 rm argsL.toArray ds (oVoid P2)) (hlen : ∀ sig, parseMethodDescriptor y.desc = some sig → argsL.length = sig.parameters.length) (hd : decode by0 pc = .ok (.invokestatic index, 3)) (hst : S' = argsL.reverse ++ S) (hsz : Ls.size = ml) (hW : (S.map fun v => v.category).sum ≤ W) (hf : rm.frames + 1 ≤ R.frames) (hl : W + (ml1 + 11) + rm.locals ≤ R.locals) (hc : cells + rm.cells ≤ R.cells) (hs : slots + rm.slots ≤ R.slots) (hc' : cells + rm.cells = cells') (hs' : slots + rm.slots = slots') (hp : pc + 3 = pc')
    (hr : ∀ ds', P2 ds' → oW p l e R s m args below meth c Z h0 P ds' cells' slots' pc' Ls S) : oW p l e R s m args below meth c Z h0 P ds cells slots pc Ls S' := by
  subst hp hst hc' hs'
  rintro T ⟨locs, X, N, M⟩
  obtain ⟨v, vm1, ⟨T', L', k', n'⟩, -, X', ⟨Lc, hQ, l', y', z'⟩, st⟩ := Jvm.LawKit.callS X K.1.1 K.2.1 (mvT K.1.2.1 w1) (mvT K.1.2.1 w2) (mvT K.1.2.1 w3) (mvT K.1.2.1 w4) hy (backOf (W := W) (Q := fun v hp L => Fr h0.size L ∧ ∃ ds', (oVoid P2) v ds' ∧ oMem Z h0 hp ds') (C T.heap M) K.1.2.1 w4 w3 hf hl) (g := mkF m pc Ls (argsL.reverse ++ S)) rfl (hsz.trans K.1.2.2.2.symm) (argsL := argsL) (rest := S) hlen rfl (by show 2 * 0 + _ ≤ _; omega) (hb K.1.2.2.1 hd) (fun _ _ => ⟨rfl, rfl, hc, hs⟩)
  dsimp only [Pt.U, Pt.locs, Pt.cells, Pt.slots] at X' l' y' z' st hQ
  subst l' y' z'
  obtain ⟨N', ds', hP, M'⟩ := hQ
  obtain ⟨rfl, hP⟩ := hP
  exact oW.ends st (hr ds' hP T' ⟨_, X', N.app N', M'⟩)
theorem oW.callI (K : oK p s m meth c Z own by0 ml ret nm) {y : MethodName} {index : Nat} {by1 : ByteArray} {ml1 : Nat} {rm : Room} {a : Addr} {argsL : List Value} {P2 : oDs → Prop} {W : Nat} {cells' slots' : Nat} (hin : y.name = "<init>")
    (w1 : (Jvm.Cond.methodLink own index y).before a0 Z = true) (w2 : (Jvm.Cond.instanceMethod y).before a0 Z = true) (w3 : (Jvm.Cond.initialized y.cls).before a0 Z = true) (w4 : (Jvm.Cond.code y by1 ml1 none).before a0 Z = true) (hy : y.cls ≠ "java/lang/invoke/MethodHandle" ∧ y.cls ≠ "java/lang/invoke/VarHandle")
    (C : oCtr l Z h0 [] y by1 ml1 none rm (.ref a :: argsL).toArray ds (oVoid P2)) (hlen : ∀ sig, parseMethodDescriptor y.desc = some sig → argsL.length = sig.parameters.length) (hd : decode by0 pc = .ok (.invokespecial index, 3)) (hst : S' = argsL.reverse ++ .ref a :: S) (hsz : Ls.size = ml) (hW : (S.map fun v => v.category).sum ≤ W) (hf : rm.frames + 1 ≤ R.frames) (hl : W + (ml1 + 11) + rm.locals ≤ R.locals) (hc : cells + rm.cells ≤ R.cells) (hs : slots + rm.slots ≤ R.slots) (hc' : cells + rm.cells = cells') (hs' : slots + rm.slots = slots') (hp : pc + 3 = pc')
    (hr : ∀ ds', P2 ds' → oW p l e R s m args below meth c Z h0 P ds' cells' slots' pc' Ls S) : oW p l e R s m args below meth c Z h0 P ds cells slots pc Ls S' := by
  subst hp hst hc' hs'
  rintro T ⟨locs, X, N, M⟩
  obtain ⟨v, vm1, ⟨T', L', k', n'⟩, -, X', ⟨Lc, hQ, l', y', z'⟩, st⟩ := X.specialBack K.1.1 hin K.2.1 (mvT K.1.2.1 w1) (mvT K.1.2.1 w2) (mvT K.1.2.1 w4) hy (backOf (W := W) (Q := fun v hp L => Fr h0.size L ∧ ∃ ds', (oVoid P2) v ds' ∧ oMem Z h0 hp ds') (C T.heap M) K.1.2.1 w4 w3 hf hl) (g := mkF m pc Ls (argsL.reverse ++ .ref a :: S)) rfl (hsz.trans K.1.2.2.2.symm) (Steps.refl _) (a := a) (argsL := argsL) (rest := S) hlen rfl (by show 2 * 0 + _ ≤ _; omega) (hb K.1.2.2.1 hd) (fun _ _ => ⟨rfl, rfl, hc, hs⟩)
  dsimp only [Pt.U, Pt.locs, Pt.cells, Pt.slots] at X' l' y' z' st hQ
  subst l' y' z'
  obtain ⟨N', ds', hP, M'⟩ := hQ
  obtain ⟨rfl, hP⟩ := hP
  exact oW.ends (fun t k => st.trans k) (hr ds' hP T' ⟨_, X', N.app N', M'⟩)
theorem oW.callV0 (K : oK p s m meth c Z own by0 ml ret nm) {y z : MethodName} {C : String} {index : Nat} {by1 : ByteArray} {ml1 : Nat} {rt1 : Option FieldType} {rm : Room} {a : Addr} {argsL : List Value} {P2 : oDs → Prop} {W : Nat} {cells' slots' : Nat}
    (w1 : (Jvm.Cond.methodLink own index y).before a0 Z = true) (w2 : (Jvm.Cond.declares y).before a0 Z = true) (w3 : (Jvm.Cond.selects C y z).before a0 Z = true) (w4 : (Jvm.Cond.instanceMethod z).before a0 Z = true) (w5 : (Jvm.Cond.code z by1 ml1 rt1).before a0 Z = true) (w6 : (Jvm.Cond.initialized z.cls).before a0 Z = true) (hy : y.cls ≠ "java/lang/invoke/MethodHandle" ∧ y.cls ≠ "java/lang/invoke/VarHandle")
    (hnf : ∀ s : State, Z.Warmed39 s.vm → NotFace s y) (hE : ∀ h, oMem Z h0 h ds → Exa Z h a C) (Ct : oCtr l Z h0 [] z by1 ml1 rt1 rm (.ref a :: argsL).toArray ds (oVoid P2)) (hlen : ∀ sig, parseMethodDescriptor y.desc = some sig → argsL.length = sig.parameters.length) (hd : decode by0 pc = .ok (.invokevirtual index, 3)) (hst : S' = argsL.reverse ++ .ref a :: S) (hsz : Ls.size = ml) (hW : (S.map fun v => v.category).sum ≤ W) (hf : rm.frames + 1 ≤ R.frames) (hl : W + (ml1 + 11) + rm.locals ≤ R.locals) (hc : cells + rm.cells ≤ R.cells) (hs : slots + rm.slots ≤ R.slots) (hc' : cells + rm.cells = cells') (hs' : slots + rm.slots = slots') (hp : pc + 3 = pc')
    (hr : ∀ ds', P2 ds' → oW p l e R s m args below meth c Z h0 P ds' cells' slots' pc' Ls S) : oW p l e R s m args below meth c Z h0 P ds cells slots pc Ls S' := by
  subst hp hst hc' hs'
  rintro T ⟨locs, X, N, M⟩
  obtain ⟨cq, kq, qa, qb, qc⟩ := isOf K.1.2.1 rfl (hE T.heap M)
  have w3' : (Jvm.Cond.selects C y z).before args s = true := mvT K.1.2.1 w3
  obtain ⟨v, vm1, ⟨T', L', k', n'⟩, -, X', ⟨Lc, hQ, l', y', z'⟩, st⟩ := X.virtualBack K.1.1 K.2.1 (mvT K.1.2.1 w1) (mvT K.1.2.1 w2) (hnf s K.1.2.1) w3' (mvT K.1.2.1 w4) hy (backOf (W := W) (Q := fun v hp L => Fr h0.size L ∧ ∃ ds', (oVoid P2) v ds' ∧ oMem Z h0 hp ds') (Ct T.heap M) K.1.2.1 w5 w6 hf hl) qa qc (g := mkF m pc Ls (argsL.reverse ++ .ref a :: S)) rfl (hsz.trans K.1.2.2.2.symm) (Steps.refl _) (argsL := argsL) (rest := S) hlen rfl (by show 2 * 0 + _ ≤ _; omega) (hb K.1.2.2.1 hd) (fun _ _ => ⟨rfl, rfl, hc, hs⟩)
  dsimp only [Pt.U, Pt.locs, Pt.cells, Pt.slots] at X' l' y' z' st hQ
  subst l' y' z'
  obtain ⟨N', ds', hP, M'⟩ := hQ
  obtain ⟨rfl, hP⟩ := hP
  exact oW.ends (fun t k => st.trans k) (hr ds' hP T' ⟨_, X', N.app N', M'⟩)
theorem oNF {C : String} {y : MethodName} (w : (Jvm.Cond.selects C y y).before a0 Z = true) : ∀ s : State, Z.Warmed39 s.vm → NotFace s y := fun s hZ => notFace_of_selects (args := #[]) (mvT hZ w)
theorem oMem.exa {h : Heap} {i : Nat} {a : Addr} {C : String} {fs : List (String × String × String × Value)} (hi : ds[i]? = some (a, .inr (C, fs))) (M : oMem Z h0 h ds) : Exa Z h a C := (M.2.2 i _ hi).2.1
theorem oW.loop {α : Type} {F : α → Prop} {mu : α → Nat} {pcj : Nat} {Lf : α → Array Slot} {Sf : α → List Value} {dsf : α → oDs} (h : ∀ z, F z → (∀ z', F z' → mu z' < mu z → oW p l e R s m args below meth c Z h0 P (dsf z') cells slots pcj (Lf z') (Sf z')) → oW p l e R s m args below meth c Z h0 P (dsf z) cells slots pcj (Lf z) (Sf z)) : ∀ z, F z → oW p l e R s m args below meth c Z h0 P (dsf z) cells slots pcj (Lf z) (Sf z) := by
  intro z
  generalize hn : mu z = n
  induction n using Nat.strongRecOn generalizing z with
  | ind n ih => exact fun hz => h z hz fun z' hz' hl => ih (mu z') (by omega) z' rfl hz'
theorem oW.newarrC (K : oK p s m meth c Z own by0 ml ret nm) {aty : ArrayType} {j : Int32} {n cap : Nat} (w : (Jvm.Cond.arrayClass (newarray.typeOf aty)).before a0 Z = true) (hd : decode by0 pc = .ok (.newarray aty, 2)) (hj : j = Int32.ofNat n) (hn : n < 2 ^ 31) (hcap : n ≤ cap) (hb8 : cap * 8 ≤ 536870912) (hc : cells + 1 ≤ R.cells) (hs : slots + cap ≤ R.slots) {cells' slots' : Nat} (hc' : cells + 1 = cells') (hs' : slots + cap = slots') {dsf : Addr → oDs} (hds : ∀ a, ds ++ [(a, .inl (newarray.typeOf aty, List.replicate n (defaultValue (newarray.typeOf aty))))] = dsf a) (hp : pc + 2 = pc')
    (hr : ∀ a : Addr, h0.size ≤ a → oW p l e R s m args below meth c Z h0 P (dsf a) cells' slots' pc' Ls (.ref a :: S)) : oW p l e R s m args below meth c Z h0 P ds cells slots pc Ls (.int j :: S) := by
  subst hp hc' hs'
  rintro T ⟨locs, X, N, M⟩
  have ej : j.toNatClampNeg = n := by subst hj; exact Int32.toNatClampNeg_ofNat_of_lt hn
  obtain ⟨T', h', k, X', e', E', A', st⟩ := newP X K.1.1 K.1.2.1 w rfl (g := mkF m pc Ls (.int j :: S)) rfl (hb K.1.2.2.1 hd) rfl (by subst hj; exact Int32.ofNat_not_neg hn) (cap := cap) (by omega) hb8 hc hs
  refine oW.ends st (hr T.heap.size M.1.1 T' ⟨_, X', N, ?_⟩)
  rw [e', ← hds]
  refine M.push E' ⟨_, A', ?_⟩
  simp [newA, ej]
theorem oW.getfH (K : oK p s m meth c Z own by0 ml ret nm) {index : Nat} {a : Addr} {O n d : String} {v : Value} (w : (Jvm.Cond.fieldLink own index O n d).before a0 Z = true) (F : Fld Z h0 a O n d v) (hd : decode by0 pc = .ok (.getfield index, 3)) (hp : pc + 3 = pc') (hr : oW p l e R s m args below meth c Z h0 P ds cells slots pc' Ls (v :: S)) : oW p l e R s m args below meth c Z h0 P ds cells slots pc Ls (.ref a :: S) := by
  subst hp
  rintro T ⟨locs, X, N, M⟩
  obtain ⟨T', X', e', st⟩ := getF X K.1.1 K.1.2.1 K.2.1 (host := "") (Or.inl w) Via.refl rfl (F.ext M.1) (g := mkF m pc Ls (.ref a :: S)) rfl rfl (hb K.1.2.2.1 hd)
  exact oW.ends st (hr T' ⟨_, X', N, by rw [e']; exact M⟩)
theorem oNF2 {C : String} {y y' : MethodName} (w : (Jvm.Cond.selects C y' y').before a0 Z = true) (hc : y.cls = y'.cls) : ∀ s : State, Z.Warmed39 s.vm → NotFace s y := fun s hZ r0 h0 => by
  obtain ⟨c2, r2, m2, q1, q2, q3, q4, kP, hkP, hkPi⟩ := Cond.selects_spec (mvT (args := #[]) hZ w)
  have e1 := findClass_of_methodNamed h0
  have e2 := findClass_of_methodNamed q3
  rw [hc] at e1
  have e3 := Option.some.inj (e1.symm.trans e2)
  exact ⟨kP, by rw [e3]; exact hkP, hkPi⟩
end Steps
section Nums
open Jvm.FP Jvm.Free.Fl
theorem oN53 : (2 ^ 53 : Nat) = 9007199254740992 := by decide
theorem oTs : (0 : Int32).toInt = 0 ∧ (1 : Int32).toInt = 1 ∧ (2 : Int32).toInt = 2 ∧ (3 : Int32).toInt = 3 ∧ (4 : Int32).toInt = 4 ∧ (5 : Int32).toInt = 5 ∧ (6 : Int32).toInt = 6 ∧ (7 : Int32).toInt = 7 ∧ (8 : Int32).toInt = 8 ∧ (9 : Int32).toInt = 9 ∧ (-1 : Int32).toInt = -1 ∧ (0 : Int64).toInt = 0 ∧ (1 : Int64).toInt = 1 ∧ (2 : Int64).toInt = 2 ∧ (8 : Int64).toInt = 8 ∧ (-1 : Int64).toInt = -1 := by decide
theorem oB32 (x : Int32) : -2147483648 ≤ x.toInt ∧ x.toInt ≤ 2147483647 := by
  have h1 := Int32.le_toInt x; have h2 := Int32.toInt_lt x; omega
theorem oB64 (x : Int64) : -9223372036854775808 ≤ x.toInt ∧ x.toInt ≤ 9223372036854775807 := by
  have h1 := Int64.le_toInt x; have h2 := Int64.toInt_lt x; omega
theorem oNN {i : Int} {x : UInt64} (h : Core.DInt i x) : NoNaN64 x := val64_no.mpr (Core.DInt_ne_nan h)
theorem oI2D {a : Int32} {v : UInt64} (h : v = FP.i2d a) : Core.DInt a.toInt v := h ▸ Core.i2d_int a
theorem oL2D {a : Int64} {v : UInt64} (h : v = FP.l2d a) (b : -9007199254740992 ≤ a.toInt ∧ a.toInt ≤ 9007199254740992) : Core.DInt a.toInt v := h ▸ Core.l2d_int (by have := oN53; omega)
theorem oDK (i : Int) {x : UInt64} (h : FP.l2d (Int64.ofInt i) = x) (b : (Int64.ofInt i).toInt = i ∧ (Int64.ofInt i).toInt.natAbs ≤ 2 ^ 53) : Core.DInt i x := by
  have := Core.l2d_int b.2
  rw [b.1] at this; exact h ▸ this
theorem oDAdd {i j : Int} {x y v : UInt64} (hx : Core.DInt i x) (hy : Core.DInt j y) (h : v = FP.dadd x y) (b : -9007199254740992 ≤ i + j ∧ i + j ≤ 9007199254740992) : Core.DInt (i + j) v := h ▸ Core.dadd_int hx hy (by have := oN53; omega)
theorem oDSub {i j : Int} {x y v : UInt64} (hx : Core.DInt i x) (hy : Core.DInt j y) (h : v = FP.dsub x y) (b : -9007199254740992 ≤ i - j ∧ i - j ≤ 9007199254740992) : Core.DInt (i - j) v := h ▸ Core.dsub_int hx hy (by have := oN53; omega)
theorem oDMul {i j : Int} {x y v : UInt64} (hx : Core.DInt i x) (hy : Core.DInt j y) (h : v = FP.dmul x y) (b : -9007199254740992 ≤ i * j ∧ i * j ≤ 9007199254740992) : Core.DInt (i * j) v := h ▸ Core.dmul_int hx hy (by have := oN53; omega)
theorem oCmp {i j : Int} {x y : UInt64} {o : CmpOp} {v : Int32} (hx : Core.DInt i x) (hy : Core.DInt j y) (h : v = cmpValue (FP.dcmp x y) o) : (v < 0 ↔ i < j) ∧ (v = 0 ↔ i = j) ∧ (0 < v ↔ j < i) := by
  have e : FP.dcmp x y = some (compare i j) := Core.dcmp_int hx hy
  rw [h, e, Core.compare_ite]
  by_cases h1 : i < j
  · have h2 : ¬ i = j := by omega
    have h3 : ¬ j < i := by omega
    simp only [h1, if_true, h2, h3, iff_false, iff_true]
    cases o <;> decide
  · by_cases h2 : i = j
    · have h3 : ¬ j < i := by omega
      simp only [h1, h2, if_false, if_true, iff_true, Int.lt_irrefl, iff_false]
      cases o <;> decide
    · have h3 : j < i := by omega
      simp only [h1, h2, h3, if_false, iff_false, iff_true]
      cases o <;> decide
theorem oLadd {x y z : Int64} (h : z = x + y) (b : -9223372036854775808 ≤ x.toInt + y.toInt ∧ x.toInt + y.toInt ≤ 9223372036854775807) : z.toInt = x.toInt + y.toInt := by
  rw [h, Int64.toInt_add]; exact Int.bmod_eq_of_le (by omega) (by omega)
theorem oLsub {x y z : Int64} (h : z = x - y) (b : -9223372036854775808 ≤ x.toInt - y.toInt ∧ x.toInt - y.toInt ≤ 9223372036854775807) : z.toInt = x.toInt - y.toInt := by
  rw [h, Int64.toInt_sub]; exact Int.bmod_eq_of_le (by omega) (by omega)
theorem oLmul {x y z : Int64} (h : z = x * y) (b : -9223372036854775808 ≤ x.toInt * y.toInt ∧ x.toInt * y.toInt ≤ 9223372036854775807) : z.toInt = x.toInt * y.toInt := by
  rw [h, Int64.toInt_mul]; exact Int.bmod_eq_of_le (by omega) (by omega)
theorem oIadd {x y z : Int32} (h : z = x + y) (b : -2147483648 ≤ x.toInt + y.toInt ∧ x.toInt + y.toInt ≤ 2147483647) : z.toInt = x.toInt + y.toInt := by
  rw [h, Int32.toInt_add]; exact Int.bmod_eq_of_le (by omega) (by omega)
theorem oIsub {x y z : Int32} (h : z = x - y) (b : -2147483648 ≤ x.toInt - y.toInt ∧ x.toInt - y.toInt ≤ 2147483647) : z.toInt = x.toInt - y.toInt := by
  rw [h, Int32.toInt_sub]; exact Int.bmod_eq_of_le (by omega) (by omega)
theorem oImul {x y z : Int32} (h : z = x * y) (b : -2147483648 ≤ x.toInt * y.toInt ∧ x.toInt * y.toInt ≤ 2147483647) : z.toInt = x.toInt * y.toInt := by
  rw [h, Int32.toInt_mul]; exact Int.bmod_eq_of_le (by omega) (by omega)
theorem oI2L {x : Int32} {z : Int64} (h : z = x.toInt64) : z.toInt = x.toInt := by rw [h]; exact Int32.toInt_toInt64 x
theorem oLcmp {x y : Int64} {v : Int32} (h : v = XT.cmpL x y) : (v < 0 ↔ x.toInt < y.toInt) ∧ (v = 0 ↔ x.toInt = y.toInt) ∧ (0 < v ↔ y.toInt < x.toInt) := by
  rw [h, XT.cmpL]
  simp only [Int64.lt_iff_toInt_lt, ← Int64.toInt_inj]
  by_cases h1 : y.toInt < x.toInt
  · have h2 : ¬ x.toInt = y.toInt := by omega
    have h3 : ¬ x.toInt < y.toInt := by omega
    simp only [h1, h2, h3, if_true, iff_true, iff_false]; decide
  · by_cases h2 : x.toInt = y.toInt
    · have h3 : ¬ x.toInt < y.toInt := by omega
      simp only [h1, h2, if_false, if_true, iff_true, Int.lt_irrefl, iff_false]; decide
    · have h3 : x.toInt < y.toInt := by omega
      simp only [h1, h2, h3, if_false, iff_false, iff_true]; decide
theorem oLt32 {x y : Int32} : x < y ↔ x.toInt < y.toInt := Int32.lt_iff_toInt_lt
theorem oEq32 {x y : Int32} : x = y ↔ x.toInt = y.toInt := Int32.toInt_inj.symm
theorem oEq64 {x y : Int64} : x = y ↔ x.toInt = y.toInt := Int64.toInt_inj.symm
theorem oMask (x : Int32) (k : Nat) (hk : k < 2 ^ 31) : ∃ n : Nat, n ≤ k ∧ (x &&& Int32.ofNat k) = Int32.ofNat n := by
  refine ⟨(x &&& Int32.ofNat k).toBitVec.toNat, ?_, ?_⟩
  · have e : (Int32.ofNat k).toBitVec.toNat = k := by
      show (BitVec.ofNat 32 k).toNat = k
      rw [BitVec.toNat_ofNat]; exact Nat.mod_eq_of_lt (by omega)
    rw [Int32.toBitVec_and, BitVec.toNat_and, e]; exact Nat.and_le_right
  · apply Int32.toBitVec_inj.mp
    show _ = BitVec.ofNat 32 _
    rw [BitVec.ofNat_toNat]; simp
theorem oMask3 {x v : Int32} (h : v = x &&& 3) : v = 0 ∨ v = 1 ∨ v = 2 ∨ v = 3 := by
  obtain ⟨n, hn, e⟩ := oMask x 3 (by decide)
  have e' : v = Int32.ofNat n := h.trans e
  have : n = 0 ∨ n = 1 ∨ n = 2 ∨ n = 3 := by omega
  rcases this with rfl | rfl | rfl | rfl
  · exact Or.inl e'
  · exact Or.inr (Or.inl e')
  · exact Or.inr (Or.inr (Or.inl e'))
  · exact Or.inr (Or.inr (Or.inr e'))
theorem oMask1 {x v : Int32} (h : v = x &&& 1) : v = 0 ∨ v = 1 := by
  obtain ⟨n, hn, e⟩ := oMask x 1 (by decide)
  have e' : v = Int32.ofNat n := h.trans e
  have : n = 0 ∨ n = 1 := by omega
  rcases this with rfl | rfl
  · exact Or.inl e'
  · exact Or.inr e'
theorem oMaskR {x v : Int32} (k : Nat) (hk : k < 2 ^ 31) (h : v = x &&& Int32.ofNat k) : 0 ≤ v.toInt ∧ v.toInt ≤ k := by
  obtain ⟨n, hn, e⟩ := oMask x k hk
  rw [h, e, Int32.toInt_ofNat_of_lt (by omega)]; omega
theorem oRem {u v y : Int32} (k : Int) (h : v = u % y) (hy : y.toInt = k) (hu : 0 ≤ u.toInt) : v.toInt = u.toInt % k := h ▸ (c_irem u y k hy).1 hu
/-! how great a double can be: her exponent's field is below K -/
abbrev oMag (K : Nat) (x : UInt64) : Prop := Jvm.Free.Fl.Mag64 K x
theorem oMNN {K : Nat} {x : UInt64} (h : oMag K x) (hK : K ≤ 2047) : NoNaN64 x := (h.fin hK).noNaN
theorem oMI2D {a : Int32} {v : UInt64} (h : v = FP.i2d a) : oMag 1056 v := h ▸ i2d_mag a
theorem oML2D {a : Int64} {v : UInt64} (h : v = FP.l2d a) : oMag 1088 v := h ▸ l2d_mag a
theorem oMMul {A B K : Nat} {x y v : UInt64} (hx : oMag A x) (hy : oMag B y) (h : v = FP.dmul x y) (b : A ≤ 2047 ∧ B ≤ 2047 ∧ A + B - 1025 + 3 ≤ K) : oMag K v := h ▸ (dmul_mag hx hy b.1 b.2.1).mono b.2.2
theorem oMAdd {A K : Nat} {x y v : UInt64} (hx : oMag A x) (hy : oMag A y) (h : v = FP.dadd x y) (b : A ≤ 2047 ∧ A + 2 ≤ K) : oMag K v := h ▸ (dadd_mag hx hy b.1).mono b.2
theorem oMSub {A K : Nat} {x y v : UInt64} (hx : oMag A x) (hy : oMag A y) (h : v = FP.dsub x y) (b : A ≤ 2047 ∧ A + 2 ≤ K) : oMag K v := h ▸ (dsub_mag hx hy b.1).mono b.2
theorem oMDiv {A L K : Nat} {x y v : UInt64} (hx : oMag A x) (hy : Big64 L y) (h : v = FP.ddiv x y) (b : A ≤ 2047 ∧ 1 ≤ L ∧ A + 1021 - L + 3 ≤ K) : oMag K v := h ▸ (ddiv_mag hx hy b.1 b.2.1).mono b.2.2
theorem oSame {x y : UInt64} {o : CmpOp} {v : Int32} (e : v = cmpValue (FP.dcmp x y) o) (h : x = y) (n : NoNaN64 x) : v = 0 := e.trans (dcmpV_eq h n o)
/-! a double that is no NaN, by its value in units of the least double (an infinity counts as the first number past the greatest) -/
def oZv (i : Int) (x : UInt64) : Prop := Core.val64 x ≠ .nan ∧ Core.zval Core.b64 (Core.val64 x) = i
theorem oZv.of {x : UInt64} (h : NoNaN64 x) : oZv (Core.zval Core.b64 (Core.val64 x)) x := ⟨val64_no.mp h, rfl⟩
theorem oZv.nn {i : Int} {x : UInt64} (h : oZv i x) : NoNaN64 x := val64_no.mpr h.1
theorem oZv.int {i : Int} {x : UInt64} (h : Core.DInt i x) : oZv (i * (Core.one64 : Int)) x := ⟨Core.DInt_ne_nan h, Core.DInt_zval h⟩
theorem oZmono {i j : Int} (h : i ≤ j) : i * (Core.one64 : Int) ≤ j * (Core.one64 : Int) := Int.mul_le_mul_of_nonneg_right h (Int.natCast_nonneg _)
theorem oCmpZ {i j : Int} {x y : UInt64} {o : CmpOp} {v : Int32} (hx : oZv i x) (hy : oZv j y) (h : v = cmpValue (FP.dcmp x y) o) : (v < 0 ↔ i < j) ∧ (v = 0 ↔ i = j) ∧ (0 < v ↔ j < i) := by
  have e : FP.dcmp x y = some (compare i j) := by have := Core.dcmp_zval hx.1 hy.1; rw [hx.2, hy.2] at this; exact this
  rw [h, e, Core.compare_ite]
  by_cases h1 : i < j
  · have h2 : ¬ i = j := by omega
    have h3 : ¬ j < i := by omega
    simp only [h1, if_true, h2, h3, iff_false, iff_true]
    cases o <;> decide
  · by_cases h2 : i = j
    · have h3 : ¬ j < i := by omega
      simp only [h1, h2, if_false, if_true, iff_true, Int.lt_irrefl, iff_false]
      cases o <;> decide
    · have h3 : j < i := by omega
      simp only [h1, h2, h3, if_false, iff_false, iff_true]
      cases o <;> decide
end Nums
section Dy
open Jvm.FP Jvm.FP.Core
/-! doubles that are n / 2^k exactly: her value in units of the least double is n * 2^(1074 - k) -/
def oQ (n : Int) (k : Nat) (x : UInt64) : Prop := DFin x ∧ zval b64 (val64 x) = n * ((2 ^ (1074 - k) : Nat) : Int)
theorem oQ.nn {n : Int} {k : Nat} {x : UInt64} (h : oQ n k x) : Jvm.Free.Fl.NoNaN64 x := Jvm.Free.Fl.val64_no.mpr h.1.ne_nan
theorem oQ.zv {n : Int} {k : Nat} {x : UInt64} (h : oQ n k x) : oZv (n * ((2 ^ (1074 - k) : Nat) : Int)) x := ⟨h.1.ne_nan, h.2⟩
theorem oQ.fin {n : Int} {k : Nat} {x : UInt64} (h : oQ n k x) : ∃ s c q, val64 x = .fin s c q ∧ Core.fits b64 (Datum.fin s c q) ∧ signed s (inUnits c q b64.qmin) = n * ((2 ^ (1074 - k) : Nat) : Int) := by
  obtain ⟨⟨s, c, q, e⟩, z⟩ := h
  have f := val64_fits x
  rw [e] at f z
  exact ⟨s, c, q, e, f, z⟩
theorem oQ.int {i : Int} {x : UInt64} (h : DInt i x) : oQ i 0 x := by
  refine ⟨?_, ?_⟩
  · have h' : Whole i (val64 x) := h
    cases e : val64 x with
    | nan => rw [e] at h'; exact h'.elim
    | inf s => rw [e] at h'; exact h'.elim
    | fin s c q => exact ⟨s, c, q, e⟩
  · rw [DInt_zval h]; rfl
theorem oPowCancel {A B a b : Nat} (h : A * 2 ^ a = B * 2 ^ b) : A * 2 ^ (a - b) = B * 2 ^ (b - a) := by
  rcases Nat.le_total a b with q | q
  · have e : 2 ^ b = 2 ^ (b - a) * 2 ^ a := by rw [← Nat.pow_add]; congr 1; omega
    rw [e, ← Nat.mul_assoc] at h
    rw [show a - b = 0 by omega, Nat.pow_zero, Nat.mul_one]
    exact Nat.eq_of_mul_eq_mul_right (Nat.two_pow_pos a) h
  · have e : 2 ^ a = 2 ^ (a - b) * 2 ^ b := by rw [← Nat.pow_add]; congr 1; omega
    rw [e, ← Nat.mul_assoc] at h
    rw [show b - a = 0 by omega, Nat.pow_zero, Nat.mul_one]
    exact Nat.eq_of_mul_eq_mul_right (Nat.two_pow_pos b) h
/-- a quotient that is N / 2^k, written otherwise -/
theorem oRR {s : Bool} {A B N M k : Nat} {e : Int} (hB : 0 < B) (hM : 0 ≤ e + M) (hk : k ≤ M) (h : A * 2 ^ (e + M).toNat = N * B * 2 ^ (M - k)) : roundRatio b64 s A B e = roundRatio b64 s N 1 (-(k : Int)) := by
  refine roundRatio_congr hB (by decide) ?_
  have c := oPowCancel h
  rw [show (e - -(k : Int)).toNat = (e + M).toNat - (M - k) by omega, show (-(k : Int) - e).toNat = (M - k) - (e + M).toNat by omega, Nat.mul_one]
  exact c
theorem oQmax (k : Nat) : -(k : Int) ≤ b64.qmax := by
  have h : b64.qmax = 971 := by decide
  omega
theorem oRX {s : Bool} {N k : Nat} (hN : N < 9007199254740992) (hk : k ≤ 1074) : ∃ c q, roundRatio b64 s N 1 (-(k : Int)) = .fin s c q ∧ inUnits c q b64.qmin = N * 2 ^ (1074 - k) := by
  obtain ⟨c, q, h1, h2⟩ := round_exact good_b64 s (c := N) (q := -(k : Int)) (by show N < 2 ^ 53; omega) (by rw [qmin_b64]; omega) (oQmax k)
  refine ⟨c, q, h1, h2.trans ?_⟩
  unfold inUnits; rw [qmin_b64]; congr 2; omega
theorem oSgn {s : Bool} {N : Nat} {n : Int} {P : Nat} (hP : 0 < P) (h : signed s (N * P) = n * (P : Int)) : signed s N = n := by
  rw [signed_mul] at h
  exact Int.eq_of_mul_eq_mul_right (by omega) h
theorem oAbs {s : Bool} {C N P : Nat} {n : Int} (h : signed s C = n * (P : Int)) (hN : n.natAbs = N) : C = N * P := by
  have := congrArg Int.natAbs h
  rw [natAbs_signed, Int.natAbs_mul, hN, Int.natAbs_natCast] at this
  exact this
/-- what is rounded from n / 2^k is just that -/
theorem oRnd {x : UInt64} {s : Bool} {A B M k : Nat} {e n : Int} (hx : val64 x = roundRatio b64 s A B e) (hB : 0 < B) (hM : 0 ≤ e + M) (hk : k ≤ M) (hk2 : k ≤ 1074) (hn : -9007199254740992 < n ∧ n < 9007199254740992) (h : signed s (A * 2 ^ (e + M).toNat) = n * ((B * 2 ^ (M - k) : Nat) : Int)) : oQ n k x := by
  have hA := oAbs h rfl
  rw [← Nat.mul_assoc] at hA
  rw [oRR hB hM hk hA] at hx
  obtain ⟨c, q, h1, h2⟩ := oRX (s := s) (N := n.natAbs) (k := k) (by omega) hk2
  rw [h1] at hx
  refine ⟨⟨s, c, q, hx⟩, ?_⟩
  rw [hx]
  show signed s (inUnits c q b64.qmin) = _
  rw [h2, signed_mul]
  have : signed s n.natAbs = n := by
    rw [hA, Nat.mul_assoc] at h
    exact oSgn (P := B * 2 ^ (M - k)) (Nat.mul_pos hB (Nat.two_pow_pos _)) h
  rw [this]
theorem oQ.add {n m : Int} {k : Nat} {x y v : UInt64} (hx : oQ n k x) (hy : oQ m k y) (e : v = FP.dadd x y) (hk : k ≤ 1074) (b : -9007199254740992 < n + m ∧ n + m < 9007199254740992) : oQ (n + m) k v := by
  obtain ⟨s, c, q, e1, f1, z1⟩ := hx.fin
  obtain ⟨t, d, r, e2, f2, z2⟩ := hy.fin
  obtain ⟨sg, C, E, h1, h2, h3⟩ := sum_units f1 f2
  have hv : val64 v = roundRatio b64 sg C 1 E := by rw [e]; show val64 (Core.dadd x y) = _; rw [val64_dadd, e1, e2, h1]; rfl
  rw [qmin_b64] at h2
  refine oRnd (M := 1074) hv (by decide) (by omega) hk hk b ?_
  have h4 : signed sg (inUnits C E b64.qmin) = (n + m) * ((2 ^ (1074 - k) : Nat) : Int) := by
    rw [h3]; show signed s (inUnits c q b64.qmin) + signed t (inUnits d r b64.qmin) = _; rw [z1, z2, Int.add_mul]
  rw [Nat.one_mul, ← h4]; unfold inUnits; rw [qmin_b64]; congr 3
theorem oQ.neg {n : Int} {k : Nat} {x : UInt64} (hx : oQ n k x) : ∃ s c q, negate (val64 x) = .fin s c q ∧ Core.fits b64 (Datum.fin s c q) ∧ signed s (inUnits c q b64.qmin) = (-n) * ((2 ^ (1074 - k) : Nat) : Int) := by
  obtain ⟨s, c, q, e1, f1, z1⟩ := hx.fin
  refine ⟨!s, c, q, by rw [e1]; rfl, f1, ?_⟩
  rw [signed_not, z1, Int.neg_mul]
theorem oQ.sub {n m : Int} {k : Nat} {x y v : UInt64} (hx : oQ n k x) (hy : oQ m k y) (e : v = FP.dsub x y) (hk : k ≤ 1074) (b : -9007199254740992 < n - m ∧ n - m < 9007199254740992) : oQ (n - m) k v := by
  obtain ⟨s, c, q, e1, f1, z1⟩ := hx.fin
  obtain ⟨t, d, r, e2, f2, z2⟩ := hy.neg
  obtain ⟨sg, C, E, h1, h2, h3⟩ := sum_units f1 f2
  have hv : val64 v = roundRatio b64 sg C 1 E := by rw [e]; show val64 (Core.dsub x y) = _; rw [val64_dsub, e1, e2, h1]; rfl
  rw [qmin_b64] at h2
  refine oRnd (M := 1074) hv (by decide) (by omega) hk hk b ?_
  have h4 : signed sg (inUnits C E b64.qmin) = (n - m) * ((2 ^ (1074 - k) : Nat) : Int) := by
    rw [h3]; show signed s (inUnits c q b64.qmin) + signed t (inUnits d r b64.qmin) = _; rw [z1, z2, ← Int.add_mul, Int.sub_eq_add_neg]
  rw [Nat.one_mul, ← h4]; unfold inUnits; rw [qmin_b64]; congr 3
theorem oQ.mul {n m : Int} {k j : Nat} {x y v : UInt64} (hx : oQ n k x) (hy : oQ m j y) (e : v = FP.dmul x y) (hk : k + j ≤ 1074) (b : -9007199254740992 < n * m ∧ n * m < 9007199254740992) : oQ (n * m) (k + j) v := by
  obtain ⟨s, c, q, e1, f1, z1⟩ := hx.fin
  obtain ⟨t, d, r, e2, f2, z2⟩ := hy.fin
  obtain ⟨h1, h2, h3⟩ := product_units f1 f2
  have hv : val64 v = roundRatio b64 (s != t) (c * d) 1 (q + r) := by rw [e]; show val64 (Core.dmul x y) = _; rw [val64_dmul, e1, e2, h1]; rfl
  rw [qmin_b64] at h2
  refine oRnd (M := 2148) hv (by decide) (by omega) (by omega) hk b ?_
  have h4 : signed (s != t) (inUnits (c * d) (q + r) (2 * b64.qmin)) = (n * m) * ((2 ^ (2148 - (k + j)) : Nat) : Int) := by
    rw [h3, signed_xor]
    show signed s (inUnits c q b64.qmin) * signed t (inUnits d r b64.qmin) = _
    rw [z1, z2, show 2148 - (k + j) = (1074 - k) + (1074 - j) by omega, Nat.pow_add, Int.natCast_mul]
    simp only [Int.mul_assoc, Int.mul_left_comm, Int.mul_comm]
  rw [Nat.one_mul, ← h4]; unfold inUnits; rw [qmin_b64]; congr 3
theorem oSgnPos {t : Bool} {D : Nat} (h : 0 < signed t D) : t = false := by
  cases t with
  | false => rfl
  | true => simp only [signed, if_true] at h; omega
theorem oSgnNat {s : Bool} {C P : Nat} {n : Int} (hP : 0 < P) (h : signed s C = n * (P : Int)) : signed s n.natAbs = n := by
  have hA := oAbs h rfl
  rw [hA] at h
  exact oSgn hP h
/-- a quotient of two such is the rounded ratio -/
theorem oQ.div {n m : Int} {k j : Nat} {x y v : UInt64} (hx : oQ n k x) (hy : oQ m j y) (e : v = FP.ddiv x y) (hm : 0 < m) (hk : k ≤ 1074) (hj : j ≤ 1074) : ∃ s, val64 v = roundRatio b64 s (n.natAbs * 2 ^ j) (m.natAbs * 2 ^ k) 0 ∧ signed s n.natAbs = n := by
  obtain ⟨s, c, q, e1, f1, z1⟩ := hx.fin
  obtain ⟨t, d, r, e2, f2, z2⟩ := hy.fin
  have q1 : b64.qmin ≤ q := f1.2.1
  have q2 : b64.qmin ≤ r := f2.2.1
  rw [qmin_b64] at q1 q2
  have ht : t = false := oSgnPos (by rw [z2]; exact Int.mul_pos hm (by have := Nat.two_pow_pos (1074 - j); omega))
  have hc := oAbs z1 rfl
  have hd := oAbs z2 rfl
  have hd0 : d ≠ 0 := by
    rintro rfl
    have : 0 < m.natAbs * 2 ^ (1074 - j) := Nat.mul_pos (by omega) (Nat.two_pow_pos _)
    unfold inUnits at hd
    rw [Nat.zero_mul] at hd
    omega
  have hv : val64 v = roundRatio b64 s c d (q - r) := by
    rw [e]; show val64 (Core.ddiv x y) = _
    rw [val64_ddiv, e1, e2, ht]
    show (if d = 0 then _ else roundRatio b64 (s != false) c d (q - r)) = _
    rw [if_neg hd0]; cases s <;> rfl
  refine ⟨s, ?_, oSgnNat (Nat.two_pow_pos _) z1⟩
  rw [hv]
  refine roundRatio_congr (by omega) (Nat.mul_pos (by omega) (Nat.two_pow_pos _)) ?_
  unfold inUnits at hc hd
  rw [qmin_b64] at hc hd
  have key : (c * (m.natAbs * 2 ^ k)) * 2 ^ (q - -1074).toNat = (n.natAbs * 2 ^ j * d) * 2 ^ (r - -1074).toNat := by
    have a1 : c * (m.natAbs * 2 ^ k) * 2 ^ (q - -1074).toNat = (c * 2 ^ (q - -1074).toNat) * (m.natAbs * 2 ^ k) := by
      simp only [Nat.mul_assoc, Nat.mul_left_comm, Nat.mul_comm]
    have a2 : n.natAbs * 2 ^ j * d * 2 ^ (r - -1074).toNat = (d * 2 ^ (r - -1074).toNat) * (n.natAbs * 2 ^ j) := by
      simp only [Nat.mul_assoc, Nat.mul_left_comm, Nat.mul_comm]
    rw [a1, a2, hc, hd]
    have a3 : 2 ^ (1074 - k) * 2 ^ k = 2 ^ (1074 - j) * 2 ^ j := by
      rw [← Nat.pow_add, ← Nat.pow_add]; congr 1; omega
    calc n.natAbs * 2 ^ (1074 - k) * (m.natAbs * 2 ^ k) = (n.natAbs * m.natAbs) * (2 ^ (1074 - k) * 2 ^ k) := Nat.mul_mul_mul_comm _ _ _ _
      _ = (m.natAbs * n.natAbs) * (2 ^ (1074 - j) * 2 ^ j) := by rw [a3, Nat.mul_comm n.natAbs]
      _ = m.natAbs * 2 ^ (1074 - j) * (n.natAbs * 2 ^ j) := (Nat.mul_mul_mul_comm _ _ _ _).symm
  have c := oPowCancel key
  rw [show (q - r - 0).toNat = (q - -1074).toNat - (r - -1074).toNat by omega, show (0 - (q - r)).toNat = (r - -1074).toNat - (q - -1074).toNat by omega]
  exact c
/-- a quotient that is r / 2^i -/
theorem oQ.divx {n m : Int} {k j : Nat} {x y v : UInt64} (hx : oQ n k x) (hy : oQ m j y) (e : v = FP.ddiv x y) (r : Int) (i : Nat) (hm : 0 < m) (hk : k ≤ 1074) (hj : j ≤ 1074) (hi : i ≤ 1074) (b : -9007199254740992 < r ∧ r < 9007199254740992) (h : n * ((2 ^ j : Nat) : Int) * ((2 ^ i : Nat) : Int) = r * (m * ((2 ^ k : Nat) : Int))) : oQ r i v := by
  obtain ⟨s, hv, hs⟩ := hx.div hy e hm hk hj
  refine oRnd (M := i) hv (Nat.mul_pos (by omega) (Nat.two_pow_pos _)) (by omega) (Nat.le_refl _) hi b ?_
  rw [show ((0 : Int) + (i : Int)).toNat = i by omega, Nat.sub_self, Nat.pow_zero, Nat.mul_one, signed_mul, signed_mul, hs, h, Int.natCast_mul, Int.natAbs_of_nonneg (by omega)]
/-- two quotients of the same value -/
theorem oQ.diveq {n m n' m' : Int} {k j k' j' : Nat} {x y v x' y' v' : UInt64} (hx : oQ n k x) (hy : oQ m j y) (e : v = FP.ddiv x y) (hx' : oQ n' k' x') (hy' : oQ m' j' y') (e' : v' = FP.ddiv x' y') (hn : 0 < n) (hn' : 0 < n') (hm : 0 < m) (hm' : 0 < m') (hk : k ≤ 1074) (hj : j ≤ 1074) (hk2 : k' ≤ 1074) (hj2 : j' ≤ 1074)
    (h : n * ((2 ^ j : Nat) : Int) * (m' * ((2 ^ k' : Nat) : Int)) = n' * ((2 ^ j' : Nat) : Int) * (m * ((2 ^ k : Nat) : Int))) : v = v' := by
  obtain ⟨s, hv, hs⟩ := hx.div hy e hm hk hj
  obtain ⟨s', hv', hs'⟩ := hx'.div hy' e' hm' hk2 hj2
  have s0 : s = false := oSgnPos (by rw [hs]; exact hn)
  have s1 : s' = false := oSgnPos (by rw [hs']; exact hn')
  have ev : val64 v = val64 v' := by
    rw [hv, hv', s0, s1]
    refine roundRatio_congr (Nat.mul_pos (by omega) (Nat.two_pow_pos _)) (Nat.mul_pos (by omega) (Nat.two_pow_pos _)) ?_
    show _ * 2 ^ 0 = _ * 2 ^ 0
    rw [Nat.pow_zero, Nat.mul_one, Nat.mul_one]
    have := congrArg Int.natAbs h
    simp only [Int.natAbs_mul, Int.natAbs_natCast] at this
    exact this
  have nn : val64 v ≠ .nan := by rw [hv]; exact roundRatio_ne_nan _ _ _ _ _
  exact val64_inj nn ev
/-- the same value, written finer -/
theorem oQ.up {n N : Int} {k k' : Nat} {x : UInt64} (h : oQ n k x) (j : Nat) (hk : k + j = k') (hk2 : k' ≤ 1074) (hN : n * ((2 ^ j : Nat) : Int) = N) : oQ N k' x := by
  refine ⟨h.1, h.2.trans ?_⟩
  rw [← hN, Int.mul_assoc, ← Int.natCast_mul, ← Nat.pow_add, show j + (1074 - k') = 1074 - k by omega]
theorem oQ.cast {n N : Int} {k k' : Nat} {x : UInt64} (h : oQ n k x) (hk : k = k') (hN : n = N) : oQ N k' x := by subst hk hN; exact h
theorem oQ.divnn {n m : Int} {k j : Nat} {x y v : UInt64} (hx : oQ n k x) (hy : oQ m j y) (e : v = FP.ddiv x y) (hm : 0 < m) (hk : k ≤ 1074) (hj : j ≤ 1074) : Jvm.Free.Fl.NoNaN64 v := by
  obtain ⟨s, hv, -⟩ := hx.div hy e hm hk hj
  exact Jvm.Free.Fl.val64_no.mpr (by rw [hv]; exact roundRatio_ne_nan _ _ _ _ _)
/-- two quotients of the same value, compared -/
theorem oQ.divcmp {n m n' m' : Int} {k j k' j' : Nat} {x y v x' y' v' : UInt64} {o : CmpOp} {r : Int32} (hx : oQ n k x) (hy : oQ m j y) (e : v = FP.ddiv x y) (hx' : oQ n' k' x') (hy' : oQ m' j' y') (e' : v' = FP.ddiv x' y') (er : r = cmpValue (FP.dcmp v v') o) (hm : 0 < m) (hm' : 0 < m') (hk : k ≤ 1074) (hj : j ≤ 1074) (hk2 : k' ≤ 1074) (hj2 : j' ≤ 1074)
    (h : n * ((2 ^ j : Nat) : Int) * (m' * ((2 ^ k' : Nat) : Int)) = n' * ((2 ^ j' : Nat) : Int) * (m * ((2 ^ k : Nat) : Int))) : r = 0 := by
  have P (a : Nat) : (0 : Int) < ((2 ^ a : Nat) : Int) := by have := Nat.two_pow_pos a; omega
  obtain ⟨s, hv, hs⟩ := hx.div hy e hm hk hj
  obtain ⟨s', hv', hs'⟩ := hx'.div hy' e' hm' hk2 hj2
  have nn : val64 v ≠ .nan := by rw [hv]; exact roundRatio_ne_nan _ _ _ _ _
  have nn' : val64 v' ≠ .nan := by rw [hv']; exact roundRatio_ne_nan _ _ _ _ _
  have pos {a b c : Int} (ha : 0 < a) (hb : 0 < b) (hc : 0 < c) : 0 < a * (b * c) := Int.mul_pos ha (Int.mul_pos hb hc)
  by_cases ss : s = s'
  · have ev : val64 v = val64 v' := by
      rw [hv, hv', ss]
      refine roundRatio_congr (Nat.mul_pos (by omega) (Nat.two_pow_pos _)) (Nat.mul_pos (by omega) (Nat.two_pow_pos _)) ?_
      show _ * 2 ^ 0 = _ * 2 ^ 0
      rw [Nat.pow_zero, Nat.mul_one, Nat.mul_one]
      have := congrArg Int.natAbs h
      simp only [Int.natAbs_mul, Int.natAbs_natCast] at this
      exact this
    exact oSame er (val64_inj nn ev) (Jvm.Free.Fl.val64_no.mpr nn)
  · have z0 : n = 0 := by
      rw [Int.mul_assoc, Int.mul_assoc] at h
      have p1 := pos (P j) hm' (P k')
      have p2 := pos (P j') hm (P k)
      generalize ((2 ^ j : Nat) : Int) * (m' * ((2 ^ k' : Nat) : Int)) = a at h p1
      generalize ((2 ^ j' : Nat) : Int) * (m * ((2 ^ k : Nat) : Int)) = b at h p2
      rcases Int.lt_trichotomy n 0 with q | q | q
      · have h1 : n * a < 0 := Int.mul_neg_of_neg_of_pos q p1
        have h2 : n' < 0 := Int.not_le.mp fun w => by have := Int.mul_nonneg w (Int.le_of_lt p2); omega
        exfalso; cases s <;> cases s' <;> simp only [signed, if_true, Bool.false_eq_true, if_false, not_true_eq_false] at hs hs' ss <;> omega
      · exact q
      · have h1 : 0 < n * a := Int.mul_pos q p1
        have h2 : 0 < n' := Int.not_le.mp fun w => by have := Int.mul_nonneg (show 0 ≤ -n' by omega) (Int.le_of_lt p2); rw [Int.neg_mul] at this; omega
        exfalso; cases s <;> cases s' <;> simp only [signed, if_true, Bool.false_eq_true, if_false, not_true_eq_false] at hs hs' ss <;> omega
    have z1 : n' = 0 := by
      rw [z0, Int.zero_mul, Int.zero_mul, Int.mul_assoc] at h
      rcases Int.mul_eq_zero.mp h.symm with q | q
      · exact q
      · have := pos (P j') hm (P k); omega
    have q1 : oQ 0 0 v := hx.divx hy e 0 0 hm hk hj (by omega) (by omega) (by rw [z0]; simp)
    have q2 : oQ 0 0 v' := hx'.divx hy' e' 0 0 hm' hk2 hj2 (by omega) (by omega) (by rw [z1]; simp)
    exact (oCmpZ q1.zv q2.zv er).2.1.mpr rfl
theorem oQ1 : oQ 4 2 4607182418800017408 := (oQ.int (oDK 1 (by decide +kernel) (by decide))).up 2 rfl (by decide) rfl
theorem oQ.fin64 {n : Int} {k : Nat} {x : UInt64} (h : oQ n k x) : Jvm.Free.Fl.Fin64 x := Jvm.Free.Fl.fin64_core.mpr h.1
theorem oQ0 (k : Nat) : oQ 0 k 0 := ⟨(oQ.int (oDK 0 (by decide +kernel) (by decide))).1, by rw [(oQ.int (oDK 0 (by decide +kernel) (by decide) : DInt 0 0)).2]; simp⟩
/-- compared at the same fineness -/
theorem oQ.cmp {n m : Int} {k : Nat} {x y : UInt64} {o : CmpOp} {v : Int32} (hx : oQ n k x) (hy : oQ m k y) (h : v = cmpValue (FP.dcmp x y) o) : (v < 0 ↔ n < m) ∧ (v = 0 ↔ n = m) ∧ (0 < v ↔ m < n) := by
  have P : (0 : Int) < ((2 ^ (1074 - k) : Nat) : Int) := by have := Nat.two_pow_pos (1074 - k); omega
  have r := oCmpZ hx.zv hy.zv h
  generalize ((2 ^ (1074 - k) : Nat) : Int) = a at P r
  have L (i j : Int) : i * a < j * a ↔ i < j := Int.mul_lt_mul_right P
  have E (i j : Int) : i * a = j * a ↔ i = j := ⟨fun q => Int.eq_of_mul_eq_mul_right (by omega) q, fun q => by rw [q]⟩
  rw [L, E, L] at r
  exact r
/-! bounds: rounding is monotone. All at the finest scale: oQ z 1074 -/
theorem oQ.fine {n : Int} {k : Nat} {x : UInt64} (h : oQ n k x) (hk : k ≤ 1074) : oQ (n * ((2 ^ (1074 - k) : Nat) : Int)) 1074 x := h.up (1074 - k) (by omega) (Nat.le_refl _) rfl
theorem oQ.z {z : Int} {x : UInt64} (h : oQ z 1074 x) : zval b64 (val64 x) = z := by
  rw [h.2, Nat.sub_self, Nat.pow_zero]; omega
theorem oQ.of_z {z : Int} {x : UInt64} (h : DFin x) (e : zval b64 (val64 x) = z) : oQ z 1074 x := ⟨h, by rw [e, Nat.sub_self, Nat.pow_zero]; omega⟩
theorem oFinLe {v w : UInt64} (hn : val64 v ≠ .nan) (h0 : 0 ≤ zval b64 (val64 v)) (hw : DFin w) (h : zval b64 (val64 v) ≤ zval b64 (val64 w)) : DFin v := by
  obtain ⟨t, d, r, e⟩ := hw
  have f := val64_fits w
  rw [e] at f h
  have lt : zmag b64 (Datum.fin t d r) < b64.tails * 2 ^ (b64.exps - 2) := zmag_lt_top good_b64 f
  cases ev : val64 v with
  | nan => exact absurd ev hn
  | fin s c q => exact ⟨s, c, q, ev⟩
  | inf s =>
    rw [ev] at h h0
    exfalso
    have hz : zval b64 (Datum.fin t d r) = signed t (zmag b64 (Datum.fin t d r)) := rfl
    have hi : zval b64 (Datum.inf s) = signed s (b64.tails * 2 ^ (b64.exps - 2)) := rfl
    rw [hz, hi] at h
    rw [hi] at h0
    generalize zmag b64 (Datum.fin t d r) = a at *
    generalize b64.tails * 2 ^ (b64.exps - 2) = b at *
    cases s <;> cases t <;> simp only [signed, if_true, Bool.false_eq_true, if_false] at h h0 <;> omega
theorem oQ.addB {a b c d : Int} {x y v lo hi : UInt64} (hx : oQ a 1074 x) (hy : oQ b 1074 y) (e : v = FP.dadd x y) (hlo : oQ c 1074 lo) (hhi : oQ d 1074 hi) (h0 : 0 ≤ c) (h1 : c ≤ a + b) (h2 : a + b ≤ d) : ∃ z, oQ z 1074 v ∧ c ≤ z ∧ z ≤ d := by
  obtain ⟨s, c1, q, e1, f1, z1⟩ := hx.fin
  obtain ⟨t, d1, r, e2, f2, z2⟩ := hy.fin
  obtain ⟨sg, C, E, h3, h4, h5⟩ := sum_units f1 f2
  rw [Nat.sub_self, Nat.pow_zero] at z1 z2
  have hv : val64 v = Core.round b64 (.fin sg C E) := by rw [e]; show val64 (Core.dadd x y) = _; rw [val64_dadd, e1, e2, h3]
  have h6 : signed sg (inUnits C E b64.qmin) = a + b := by
    rw [h5]; show signed s (inUnits c1 q b64.qmin) + signed t (inUnits d1 r b64.qmin) = _; rw [z1, z2]; omega
  have up := zval_round_le good_b64 (s := sg) (c := C) (q := E) (e0 := b64.qmin) (val64_fits hi) hhi.1.ne_nan (Int.le_refl _) h4 (by rw [h6, Int.sub_self]; show _ ≤ _ * 1; rw [hhi.z]; omega)
  have dn := zval_round_ge good_b64 (s := sg) (c := C) (q := E) (e0 := b64.qmin) (val64_fits lo) hlo.1.ne_nan (Int.le_refl _) h4 (by rw [h6, Int.sub_self]; show _ * 1 ≤ _; rw [hlo.z]; omega)
  rw [← hv] at up dn
  have nn : val64 v ≠ .nan := by rw [hv]; exact fun q => Datum.noConfusion (round_nan.mp q)
  have hF : DFin v := oFinLe nn (by rw [hlo.z] at dn; omega) hhi.1 up
  rw [hlo.z] at dn
  rw [hhi.z] at up
  exact ⟨_, oQ.of_z hF rfl, dn, up⟩
theorem oQ.divB {a b c d : Int} {x y v lo hi : UInt64} (hx : oQ a 1074 x) (hy : oQ b 1074 y) (e : v = FP.ddiv x y) (hlo : oQ c 1074 lo) (hhi : oQ d 1074 hi) (h0 : 0 ≤ c) (ha : 0 ≤ a) (hb : 0 < b) (h1 : c * b ≤ a * ((2 ^ 1074 : Nat) : Int)) (h2 : a * ((2 ^ 1074 : Nat) : Int) ≤ d * b) : ∃ z, oQ z 1074 v ∧ c ≤ z ∧ z ≤ d := by
  obtain ⟨s, hv, hs⟩ := hx.div hy e hb (Nat.le_refl _) (Nat.le_refl _)
  have P : 0 < 2 ^ 1074 := Nat.two_pow_pos 1074
  rcases Int.lt_or_eq_of_le ha with pa | pa
  · have s0 : s = false := oSgnPos (by rw [hs]; exact pa)
    subst s0
    have hd : 0 ≤ d := Int.not_lt.mp fun w => by
      have := Int.mul_neg_of_neg_of_pos w hb
      have := Int.mul_nonneg ha (Int.natCast_nonneg (2 ^ 1074)); omega
    have zlo : zmag b64 (val64 lo) = c.natAbs := by
      have := congrArg Int.natAbs hlo.z
      unfold zval at this; rw [natAbs_signed] at this; exact this
    have zhi : zmag b64 (val64 hi) = d.natAbs := by
      have := congrArg Int.natAbs hhi.z
      unfold zval at this; rw [natAbs_signed] at this; exact this
    have B0 : 0 < b.natAbs * 2 ^ 1074 := Nat.mul_pos (by omega) P
    have i0 : ∀ A : Nat, inUnits A 0 b64.qmin = A * 2 ^ 1074 := fun A => by unfold inUnits; rw [qmin_b64]; rfl
    have k1 : c.natAbs * b.natAbs ≤ a.natAbs * 2 ^ 1074 := by
      have : ((c.natAbs * b.natAbs : Nat) : Int) ≤ ((a.natAbs * 2 ^ 1074 : Nat) : Int) := by
        rw [Int.natCast_mul, Int.natCast_mul, Int.natAbs_of_nonneg h0, Int.natAbs_of_nonneg ha, Int.natAbs_of_nonneg (Int.le_of_lt hb)]; exact h1
      exact Int.ofNat_le.mp this
    have k2 : a.natAbs * 2 ^ 1074 ≤ d.natAbs * b.natAbs := by
      have : ((a.natAbs * 2 ^ 1074 : Nat) : Int) ≤ ((d.natAbs * b.natAbs : Nat) : Int) := by
        rw [Int.natCast_mul, Int.natCast_mul, Int.natAbs_of_nonneg hd, Int.natAbs_of_nonneg ha, Int.natAbs_of_nonneg (Int.le_of_lt hb)]; exact h2
      exact Int.ofNat_le.mp this
    have up := zmag_roundRatio_le good_b64 (s := false) (A := a.natAbs * 2 ^ 1074) (e := 0) (e0 := b64.qmin) B0 (val64_fits hi) hhi.1.ne_nan (Int.le_refl _) (by rw [qmin_b64]; decide) (by rw [i0, zhi, Int.sub_self]; show _ ≤ _ * 1 * _; rw [Nat.mul_one, ← Nat.mul_assoc]; exact Nat.mul_le_mul_right _ k2)
    have dn := zmag_roundRatio_ge good_b64 (s := false) (A := a.natAbs * 2 ^ 1074) (e := 0) (e0 := b64.qmin) B0 (val64_fits lo) (Int.le_refl _) (by rw [qmin_b64]; decide) (by rw [i0, zlo, Int.sub_self]; show _ * 1 * _ ≤ _; rw [Nat.mul_one, ← Nat.mul_assoc]; exact Nat.mul_le_mul_right _ k1)
    rw [← hv] at up dn
    rw [zhi] at up
    rw [zlo] at dn
    have nn : val64 v ≠ .nan := by rw [hv]; exact roundRatio_ne_nan _ _ _ _ _
    have zv : zval b64 (val64 v) = (zmag b64 (val64 v) : Int) := by
      unfold zval; rw [hv, sgn_roundRatio]; rfl
    have hF : DFin v := oFinLe nn (by rw [zv]; omega) hhi.1 (by rw [zv, hhi.z]; omega)
    exact ⟨_, oQ.of_z hF rfl, by rw [zv]; omega, by rw [zv]; omega⟩
  · subst pa
    have q0 : oQ 0 1074 v := hx.divx hy e 0 1074 hb (Nat.le_refl _) (Nat.le_refl _) (Nat.le_refl _) (by omega) (by simp)
    refine ⟨0, q0, ?_, ?_⟩
    · rw [Int.zero_mul] at h1
      exact Int.not_lt.mp fun w => by have := Int.mul_pos w hb; omega
    · rw [Int.zero_mul] at h2
      exact Int.not_lt.mp fun w => by have := Int.mul_neg_of_neg_of_pos w hb; omega
/-- one bound alone, of a sum that is finite -/
theorem oQ.addLo {a b c : Int} {x y v lo : UInt64} (hx : oQ a 1074 x) (hy : oQ b 1074 y) (e : v = FP.dadd x y) (hF : DFin v) (hlo : oQ c 1074 lo) (h1 : c ≤ a + b) : ∃ z, oQ z 1074 v ∧ c ≤ z := by
  obtain ⟨s, c1, q, e1, f1, z1⟩ := hx.fin
  obtain ⟨t, d1, r, e2, f2, z2⟩ := hy.fin
  obtain ⟨sg, C, E, h3, h4, h5⟩ := sum_units f1 f2
  rw [Nat.sub_self, Nat.pow_zero] at z1 z2
  have hv : val64 v = Core.round b64 (.fin sg C E) := by rw [e]; show val64 (Core.dadd x y) = _; rw [val64_dadd, e1, e2, h3]
  have h6 : signed sg (inUnits C E b64.qmin) = a + b := by
    rw [h5]; show signed s (inUnits c1 q b64.qmin) + signed t (inUnits d1 r b64.qmin) = _; rw [z1, z2]; omega
  have dn := zval_round_ge good_b64 (s := sg) (c := C) (q := E) (e0 := b64.qmin) (val64_fits lo) hlo.1.ne_nan (Int.le_refl _) h4 (by rw [h6, Int.sub_self]; show _ * 1 ≤ _; rw [hlo.z]; omega)
  rw [← hv] at dn
  rw [hlo.z] at dn
  exact ⟨_, oQ.of_z hF rfl, dn⟩
/-- a number over infinity is nought -/
theorem oQ.divinf {n : Int} {k : Nat} {x v : UInt64} (hx : oQ n k x) (e : v = FP.ddiv x 9218868437227405312) : oQ 0 0 v := by
  obtain ⟨s, c, q, e1, f1, z1⟩ := hx.fin
  have hi : val64 9218868437227405312 = .inf false := by decide +kernel
  have hv : val64 v = .fin (s != false) 0 b64.qmin := by rw [e]; show val64 (Core.ddiv x _) = _; rw [val64_ddiv, e1, hi]; rfl
  refine ⟨⟨_, _, _, hv⟩, ?_⟩
  rw [hv]; show signed (s != false) (inUnits 0 b64.qmin b64.qmin) = _
  unfold inUnits; rw [Nat.zero_mul, Int.zero_mul]; cases s <;> rfl
/-- times a power of two: exact, however great -/
theorem oQ.mulpow {n m : Int} {j : Nat} {x y v : UInt64} (hx : oQ n 0 x) (hy : oQ m 0 y) (e : v = FP.dmul x y) (hm : ((2 ^ j : Nat) : Int) = m) (hj : j ≤ 900) (b : -9007199254740992 < n ∧ n < 9007199254740992) : oQ (n * m) 0 v := by
  obtain ⟨s, c, q, e1, f1, z1⟩ := hx.fin
  obtain ⟨t, d, r, e2, f2, z2⟩ := hy.fin
  obtain ⟨h1, h2, h3⟩ := product_units f1 f2
  have hv : val64 v = roundRatio b64 (s != t) (c * d) 1 (q + r) := by rw [e]; show val64 (Core.dmul x y) = _; rw [val64_dmul, e1, e2, h1]; rfl
  have P := Nat.two_pow_pos (1074 - 0)
  have ht : t = false := oSgnPos (by rw [z2, ← hm]; have := Nat.two_pow_pos j; exact Int.mul_pos (by omega) (by omega))
  have hc := oAbs z1 rfl
  have hd := oAbs z2 rfl
  rw [qmin_b64] at h2 h3
  have hms : m.natAbs = 2 ^ j := by rw [← hm, Int.natAbs_natCast]
  have hr : val64 v = Core.round b64 (.fin s n.natAbs (j : Int)) := by
    rw [hv, ht]
    show roundRatio b64 (s != false) _ _ _ = roundRatio b64 s n.natAbs 1 (j : Int)
    rw [show (s != false) = s by cases s <;> rfl]
    refine roundRatio_congr (by decide) (by decide) ?_
    have key : c * d * 2 ^ (q + r - 2 * (-1074)).toNat = n.natAbs * 2 ^ (j + 2148) := by
      have h3' : inUnits (c * d) (q + r) (2 * (-1074)) = inUnits c q b64.qmin * inUnits d r b64.qmin := h3
      rw [hc, hd, hms] at h3'
      unfold inUnits at h3'
      rw [h3', Nat.pow_add, show 2148 = (1074 - 0) + (1074 - 0) by rfl, Nat.pow_add]
      simp only [Nat.mul_assoc, Nat.mul_left_comm, Nat.mul_comm]
    have c2 := oPowCancel key
    rw [show (q + r - (j : Int)).toNat = (q + r - 2 * (-1074)).toNat - (j + 2148) by omega, show ((j : Int) - (q + r)).toNat = (j + 2148) - (q + r - 2 * (-1074)).toNat by omega, Nat.mul_one, Nat.mul_one]
    exact c2
  obtain ⟨c', q', g1, g2⟩ := round_exact good_b64 s (c := n.natAbs) (q := (j : Int)) (by show n.natAbs < 2 ^ 53; omega) (by rw [qmin_b64]; omega) (by rw [show b64.qmax = 971 by decide]; omega)
  rw [g1] at hr
  refine ⟨⟨_, _, _, hr⟩, ?_⟩
  rw [hr]; show signed s (inUnits c' q' b64.qmin) = _
  have sn := oSgnNat P z1
  rw [g2]; unfold inUnits
  rw [qmin_b64, signed_mul, sn, show ((j : Int) - -1074).toNat = j + (1074 - 0) by omega, Nat.pow_add, Int.natCast_mul, hm, Int.mul_assoc]
/-! whole numbers -/
theorem oMB {a b A B : Int} (ha : 0 ≤ a ∧ a ≤ A) (hb : 0 ≤ b ∧ b ≤ B) : 0 ≤ a * b ∧ a * b ≤ A * B := ⟨Int.mul_nonneg ha.1 hb.1, Int.mul_le_mul ha.2 hb.2 hb.1 (by omega)⟩
theorem oMBs {a b A B : Int} (ha : -A ≤ a ∧ a ≤ A) (hb : 0 ≤ b ∧ b ≤ B) : -(A * B) ≤ a * b ∧ a * b ≤ A * B := by
  have h1 : a * b ≤ A * B := Int.le_trans (Int.mul_le_mul_of_nonneg_right ha.2 hb.1) (Int.mul_le_mul_of_nonneg_left hb.2 (by omega))
  have h2 : -a * b ≤ A * B := Int.le_trans (Int.mul_le_mul_of_nonneg_right (show -a ≤ A by omega) hb.1) (Int.mul_le_mul_of_nonneg_left hb.2 (by omega))
  rw [Int.neg_mul] at h2
  omega
theorem oUshr1 {x v : Int32} (e : v = XT.ushr x 1) : 0 ≤ v.toInt ∧ v.toInt ≤ 2147483647 := by
  have h := c_iushr x 1 1 (by decide) (by decide)
  rw [e]; unfold XT.ushr; rw [h]; omega
theorem oLandMax {x v : Int64} (e : v = x &&& 9223372036854775807) : 0 ≤ v.toInt := by
  have h : v.toBitVec.msb = false := by
    rw [e, Int64.toBitVec_and, BitVec.msb_and]
    rw [show (9223372036854775807 : Int64).toBitVec.msb = false by decide, Bool.and_false]
  rw [← Int64.toInt_toBitVec, BitVec.toInt_eq_toNat_of_msb h]
  exact Int.natCast_nonneg _
theorem oShr21 {x v : Int32} (e : v = x >>> ((21 : Int32) &&& 31)) : -1024 ≤ v.toInt ∧ v.toInt ≤ 1023 := by
  have h := c_ishr x 21 21 (by decide)
  have b := oB32 x
  rw [e, h]; omega
theorem oShlI {z v : Int32} {E : Nat} (hz : z.toInt = (E : Int)) (hE : E ≤ 20) (e : v = (1 : Int32) <<< (z &&& 31)) : v.toInt = ((2 ^ E : Nat) : Int) := by
  have h : z = Int32.ofNat E := oEq32.mpr (by rw [hz, Int32.toInt_ofNat_of_lt (by omega)])
  have D : ∀ E : Fin 21, ((1 : Int32) <<< ((Int32.ofNat E.val) &&& 31)).toInt = ((2 ^ E.val : Nat) : Int) := by decide
  rw [e, h]; exact D ⟨E, by omega⟩
theorem oShlL {z : Int32} {v : Int64} {E : Nat} (hz : z.toInt = (E : Int)) (hE : E ≤ 40) (e : v = (1 : Int64) <<< (z.toInt64 &&& 63)) : v.toInt = ((2 ^ E : Nat) : Int) := by
  have h : z = Int32.ofNat E := oEq32.mpr (by rw [hz, Int32.toInt_ofNat_of_lt (by omega)])
  have D : ∀ E : Fin 41, ((1 : Int64) <<< ((Int32.ofNat E.val).toInt64 &&& 63)).toInt = ((2 ^ E.val : Nat) : Int) := by decide
  rw [e, h]; exact D ⟨E, by omega⟩
/-- a local that is not read any more: nothing or one word -/
def oDead (s : Slot) : Prop := s = .unset ∨ ∃ z : Int32, s = .val (.int z)
theorem oStoreDead {l l' : Array Slot} {i : Nat} {v : Value} {s : Slot} (h : l[i]? = some s) (hd : oDead s) (hs : storeSelf l i v = some l') : storeLocals l i v = some l' := by
  unfold storeLocals
  rcases hd with rfl | ⟨z, rfl⟩ <;> rw [h] <;> exact hs
end Dy
section Quo
open Jvm.FP Jvm.FP.Core
theorem oQ.zm {c : Int} {i : Nat} {z : UInt64} (hz : oQ c i z) : zmag b64 (val64 z) = c.natAbs * 2 ^ (1074 - i) := by
  have := congrArg Int.natAbs hz.2
  unfold zval at this
  rw [natAbs_signed, Int.natAbs_mul, Int.natAbs_natCast] at this
  exact this
theorem oIU (A : Nat) : inUnits A 0 b64.qmin = A * 2 ^ 1074 := by unfold inUnits; rw [qmin_b64]; rfl
theorem oP1074 {i : Nat} (h : i ≤ 1074) : 2 ^ 1074 = 2 ^ i * 2 ^ (1074 - i) := by rw [← Nat.pow_add]; congr 1; omega
theorem oAbsLe {n m c : Int} {J I K : Nat} (hn : 0 ≤ n) (hm : 0 < m) (hc : 0 ≤ c) (h : n * (J : Int) * (I : Int) ≤ c * (m * (K : Int))) : n.natAbs * J * I ≤ c.natAbs * (m.natAbs * K) := by
  have : ((n.natAbs * J * I : Nat) : Int) ≤ ((c.natAbs * (m.natAbs * K) : Nat) : Int) := by
    simp only [Int.natCast_mul]
    rw [Int.natAbs_of_nonneg hn, Int.natAbs_of_nonneg hc, Int.natAbs_of_nonneg (Int.le_of_lt hm)]; exact h
  exact Int.ofNat_le.mp this
theorem oAbsGe {n m c : Int} {J I K : Nat} (hn : 0 ≤ n) (hm : 0 < m) (hc : 0 ≤ c) (h : c * (m * (K : Int)) ≤ n * (J : Int) * (I : Int)) : c.natAbs * (m.natAbs * K) ≤ n.natAbs * J * I := by
  have : ((c.natAbs * (m.natAbs * K) : Nat) : Int) ≤ ((n.natAbs * J * I : Nat) : Int) := by
    simp only [Int.natCast_mul]
    rw [Int.natAbs_of_nonneg hn, Int.natAbs_of_nonneg hc, Int.natAbs_of_nonneg (Int.le_of_lt hm)]; exact h
  exact Int.ofNat_le.mp this
theorem oScale {A C i : Nat} (hi : i ≤ 1074) (h : A * 2 ^ i ≤ C) : A * 2 ^ 1074 ≤ C * 2 ^ (1074 - i) := by
  rw [oP1074 hi, ← Nat.mul_assoc]; exact Nat.mul_le_mul_right _ h
theorem oScale' {A C i : Nat} (hi : i ≤ 1074) (h : C ≤ A * 2 ^ i) : C * 2 ^ (1074 - i) ≤ A * 2 ^ 1074 := by
  rw [oP1074 hi, ← Nat.mul_assoc]; exact Nat.mul_le_mul_right _ h
/-- the magnitude of a rounded quotient against a number of the format -/
theorem oQ.divmag {n m c : Int} {k j i : Nat} {s : Bool} {v z : UInt64} (hv : val64 v = roundRatio b64 s (n.natAbs * 2 ^ j) (m.natAbs * 2 ^ k) 0) (hz : oQ c i z) (hm : 0 < m) (hi : i ≤ 1074) :
    (n.natAbs * 2 ^ j * 2 ^ i ≤ c.natAbs * (m.natAbs * 2 ^ k) → zmag b64 (val64 v) ≤ zmag b64 (val64 z)) ∧ (c.natAbs * (m.natAbs * 2 ^ k) ≤ n.natAbs * 2 ^ j * 2 ^ i → zmag b64 (val64 z) ≤ zmag b64 (val64 v)) := by
  have hB : 0 < m.natAbs * 2 ^ k := Nat.mul_pos (by omega) (Nat.two_pow_pos _)
  have e0 : c.natAbs * 2 ^ (1074 - i) * 1 * (m.natAbs * 2 ^ k) = c.natAbs * (m.natAbs * 2 ^ k) * 2 ^ (1074 - i) := by
    rw [Nat.mul_one, Nat.mul_right_comm]
  refine ⟨fun h => ?_, fun h => ?_⟩
  · rw [hv]
    refine zmag_roundRatio_le good_b64 (e0 := b64.qmin) hB (val64_fits z) hz.1.ne_nan (Int.le_refl _) (by rw [qmin_b64]; decide) ?_
    rw [oIU, hz.zm, Int.sub_self]
    show _ ≤ _ * 1 * _
    rw [e0]; exact oScale hi h
  · rw [hv]
    refine zmag_roundRatio_ge good_b64 (e0 := b64.qmin) hB (val64_fits z) (Int.le_refl _) (by rw [qmin_b64]; decide) ?_
    rw [oIU, hz.zm, Int.sub_self]
    show _ * 1 * _ ≤ _
    rw [e0]; exact oScale' hi h
theorem oZV {s : Bool} {A B : Nat} {v : UInt64} (hv : val64 v = roundRatio b64 s A B 0) : zval b64 (val64 v) = signed s (zmag b64 (val64 v)) := by
  unfold zval; rw [hv, sgn_roundRatio]
theorem oSF (a : Nat) : signed false a = (a : Int) := rfl
theorem oST (a : Nat) : signed true a = -(a : Int) := rfl
theorem oPos3 {m : Int} {k : Nat} (hm : 0 < m) : 0 < m * ((2 ^ k : Nat) : Int) := Int.mul_pos hm (by have := Nat.two_pow_pos k; omega)
theorem oNN2 {n : Int} {j i : Nat} (hn : 0 ≤ n) : 0 ≤ n * ((2 ^ j : Nat) : Int) * ((2 ^ i : Nat) : Int) := Int.mul_nonneg (Int.mul_nonneg hn (Int.natCast_nonneg _)) (Int.natCast_nonneg _)
theorem oQ.zle0 {c : Int} {i : Nat} {z : UInt64} (hz : oQ c i z) : (0 ≤ c → 0 ≤ zval b64 (val64 z) ∧ zval b64 (val64 z) = (zmag b64 (val64 z) : Int)) ∧ (c ≤ 0 → zval b64 (val64 z) ≤ 0 ∧ zval b64 (val64 z) = -(zmag b64 (val64 z) : Int)) := by
  rw [hz.zm, hz.2, Int.natCast_mul]
  refine ⟨fun h => ?_, fun h => ?_⟩
  · rw [Int.natAbs_of_nonneg h]; exact ⟨Int.mul_nonneg h (Int.natCast_nonneg _), rfl⟩
  · have e : ((c.natAbs : Nat) : Int) = -c := by omega
    rw [e, Int.neg_mul, Int.neg_neg]
    have : 0 ≤ -c * ((2 ^ (1074 - i) : Nat) : Int) := Int.mul_nonneg (by omega) (Int.natCast_nonneg _)
    rw [Int.neg_mul] at this
    exact ⟨by omega, rfl⟩
theorem oQ.divle {n m c : Int} {k j i : Nat} {x y v z : UInt64} (hx : oQ n k x) (hy : oQ m j y) (e : v = FP.ddiv x y) (hz : oQ c i z) (hm : 0 < m) (hk : k ≤ 1074) (hj : j ≤ 1074) (hi : i ≤ 1074) (h : n * ((2 ^ j : Nat) : Int) * ((2 ^ i : Nat) : Int) ≤ c * (m * ((2 ^ k : Nat) : Int))) : zval b64 (val64 v) ≤ zval b64 (val64 z) := by
  obtain ⟨s, hv, hs⟩ := hx.div hy e hm hk hj
  obtain ⟨L, G⟩ := oQ.divmag hv hz hm hi
  rw [oZV hv]
  have pm := oPos3 (k := k) hm
  cases s with
  | false =>
    rw [oSF] at hs ⊢
    have hn : 0 ≤ n := by omega
    have hc : 0 ≤ c := Int.not_lt.mp fun w => by
      have := Int.mul_neg_of_neg_of_pos w pm
      have := oNN2 (j := j) (i := i) hn
      omega
    have := L (oAbsLe hn hm hc h)
    rw [(hz.zle0.1 hc).2]; omega
  | true =>
    rw [oST] at hs ⊢
    rcases Int.le_total 0 c with hc | hc
    · have := (hz.zle0.1 hc).1; omega
    · have := G (by
        have h' : (-c) * (m * ((2 ^ k : Nat) : Int)) ≤ (-n) * ((2 ^ j : Nat) : Int) * ((2 ^ i : Nat) : Int) := by
          rw [Int.neg_mul, Int.neg_mul, Int.neg_mul]; omega
        have := oAbsGe (n := -n) (by omega) hm (c := -c) (by omega) h'
        rw [Int.natAbs_neg, Int.natAbs_neg] at this; exact this)
      rw [(hz.zle0.2 hc).2]; omega
theorem oQ.divge {n m c : Int} {k j i : Nat} {x y v z : UInt64} (hx : oQ n k x) (hy : oQ m j y) (e : v = FP.ddiv x y) (hz : oQ c i z) (hm : 0 < m) (hk : k ≤ 1074) (hj : j ≤ 1074) (hi : i ≤ 1074) (h : c * (m * ((2 ^ k : Nat) : Int)) ≤ n * ((2 ^ j : Nat) : Int) * ((2 ^ i : Nat) : Int)) : zval b64 (val64 z) ≤ zval b64 (val64 v) := by
  obtain ⟨s, hv, hs⟩ := hx.div hy e hm hk hj
  obtain ⟨L, G⟩ := oQ.divmag hv hz hm hi
  rw [oZV hv]
  have pm := oPos3 (k := k) hm
  cases s with
  | false =>
    rw [oSF] at hs ⊢
    have hn : 0 ≤ n := by omega
    rcases Int.le_total 0 c with hc | hc
    · have := G (oAbsGe hn hm hc h)
      rw [(hz.zle0.1 hc).2]; omega
    · have := (hz.zle0.2 hc).1; omega
  | true =>
    rw [oST] at hs ⊢
    have hn : 0 ≤ -n := by omega
    have h' : (-n) * ((2 ^ j : Nat) : Int) * ((2 ^ i : Nat) : Int) ≤ (-c) * (m * ((2 ^ k : Nat) : Int)) := by
      rw [Int.neg_mul, Int.neg_mul, Int.neg_mul]; omega
    have hc : 0 ≤ -c := Int.not_lt.mp fun w => by
      have := Int.mul_neg_of_neg_of_pos w pm
      have := oNN2 (j := j) (i := i) hn
      omega
    have := L (by
      have := oAbsLe (n := -n) hn hm (c := -c) hc h'
      rw [Int.natAbs_neg, Int.natAbs_neg] at this; exact this)
    rw [(hz.zle0.2 (by omega)).2]; omega
theorem oQex8 {n : Int} (b : -4503599627370496 < n ∧ n < 4503599627370496) : ∃ x, oQ n 8 x := by
  have e : (Int64.ofInt n).toInt = n := Int64.toInt_ofInt_of_le (by omega) (by omega)
  have h := oL2D (a := Int64.ofInt n) rfl (by omega)
  rw [e] at h
  exact ⟨_, (oQ.int h).divx (oQ.int (oDK 256 rfl (by decide))) rfl n 8 (by decide) (by decide) (by decide) (by decide) (by omega) (by show n * 1 * 256 = n * (256 * 1); omega)⟩
/-- a rounded mean (N / 256) / (W / 32) against r / 8: the rounding changes nothing of the order -/
theorem oQ.quo3 {N W r : Int} {x y v z : UInt64} (hx : oQ N 8 x) (hy : oQ W 5 y) (e : v = FP.ddiv x y) (hz : oQ r 3 z) (hW : 1 ≤ W ∧ W ≤ 32) (hr : -68719476736 ≤ r ∧ r ≤ 68719476736) : (N < r * W → zval b64 (val64 v) < zval b64 (val64 z)) ∧ (N = r * W → zval b64 (val64 v) = zval b64 (val64 z)) ∧ (r * W < N → zval b64 (val64 z) < zval b64 (val64 v)) := by
  have hz8 : oQ (r * 32) 8 z := hz.up 5 rfl (by decide) rfl
  have P : (0 : Int) < ((2 ^ (1074 - 8) : Nat) : Int) := by have := Nat.two_pow_pos (1074 - 8); omega
  refine ⟨fun h => ?_, fun h => ?_, fun h => ?_⟩
  · obtain ⟨t, ht⟩ := oQex8 (n := 32 * r - 1) (by omega)
    have e1 : (32 * r - 1) * (W * 256) = (r * W) * 8192 - W * 256 := by
      rw [Int.sub_mul, Int.one_mul, Int.mul_assoc 32 r, ← Int.mul_assoc r W 256]; omega
    have := hx.divle hy e ht (by omega) (by decide) (by decide) (by decide) (by show N * 32 * 256 ≤ (32 * r - 1) * (W * 256); rw [e1]; omega)
    rw [ht.2] at this
    rw [hz8.2]
    exact Int.lt_of_le_of_lt this (Int.mul_lt_mul_of_pos_right (by omega) P)
  · have hv : oQ r 3 v := hx.divx hy e r 3 (by omega) (by decide) (by decide) (by decide) (by omega) (by
      show N * 32 * 8 = r * (W * 256)
      rw [← Int.mul_assoc r W 256]; omega)
    rw [hv.2, hz.2]
  · obtain ⟨t, ht⟩ := oQex8 (n := 32 * r + 1) (by omega)
    have e1 : (32 * r + 1) * (W * 256) = (r * W) * 8192 + W * 256 := by
      rw [Int.add_mul, Int.one_mul, Int.mul_assoc 32 r, ← Int.mul_assoc r W 256]; omega
    have := hx.divge hy e ht (by omega) (by decide) (by decide) (by decide) (by show (32 * r + 1) * (W * 256) ≤ N * 32 * 256; rw [e1]; omega)
    rw [ht.2] at this
    rw [hz8.2]
    exact Int.lt_of_lt_of_le (Int.mul_lt_mul_of_pos_right (by omega) P) this
theorem oQ.divzv {n m : Int} {k j : Nat} {x y v : UInt64} (hx : oQ n k x) (hy : oQ m j y) (e : v = FP.ddiv x y) (hm : 0 < m) (hk : k ≤ 1074) (hj : j ≤ 1074) : oZv (zval b64 (val64 v)) v := by
  obtain ⟨s, hv, -⟩ := hx.div hy e hm hk hj
  exact ⟨by rw [hv]; exact roundRatio_ne_nan _ _ _ _ _, rfl⟩
theorem oTri {a b A B : Int} (h1 : A < B → a < b) (h2 : A = B → a = b) (h3 : B < A → b < a) : (a < b ↔ A < B) ∧ (a = b ↔ A = B) ∧ (b < a ↔ B < A) := by
  rcases Int.lt_trichotomy A B with q | q | q
  · have := h1 q; omega
  · have := h2 q; omega
  · have := h3 q; omega
theorem oQ.quoL {N W r : Int} {x y v z : UInt64} {o : CmpOp} {c : Int32} (hx : oQ N 8 x) (hy : oQ W 5 y) (e : v = FP.ddiv x y) (hz : oQ r 3 z) (hW : 1 ≤ W ∧ W ≤ 32) (hr : -68719476736 ≤ r ∧ r ≤ 68719476736) (ec : c = cmpValue (FP.dcmp v z) o) : (c < 0 ↔ N < r * W) ∧ (c = 0 ↔ N = r * W) ∧ (0 < c ↔ r * W < N) := by
  obtain ⟨h1, h2, h3⟩ := hx.quo3 hy e hz hW hr
  have t := oTri h1 h2 h3
  have q := oCmpZ (hx.divzv hy e (by omega) (by decide) (by decide)) ⟨hz.1.ne_nan, rfl⟩ ec
  exact ⟨q.1.trans t.1, q.2.1.trans t.2.1, q.2.2.trans t.2.2⟩
theorem oQ.quoR {N W r : Int} {x y v z : UInt64} {o : CmpOp} {c : Int32} (hx : oQ N 8 x) (hy : oQ W 5 y) (e : v = FP.ddiv x y) (hz : oQ r 3 z) (hW : 1 ≤ W ∧ W ≤ 32) (hr : -68719476736 ≤ r ∧ r ≤ 68719476736) (ec : c = cmpValue (FP.dcmp z v) o) : (c < 0 ↔ r * W < N) ∧ (c = 0 ↔ r * W = N) ∧ (0 < c ↔ N < r * W) := by
  obtain ⟨h1, h2, h3⟩ := hx.quo3 hy e hz hW hr
  have t := oTri h1 h2 h3
  have q := oCmpZ ⟨hz.1.ne_nan, rfl⟩ (hx.divzv hy e (by omega) (by decide) (by decide)) ec
  exact ⟨q.1.trans t.2.2, q.2.1.trans (eq_comm.trans (t.2.1.trans eq_comm)), q.2.2.trans t.1⟩

/-- a mean of a block: the rounded quotient of (N / 256) by (W / 32) -/
def oDq (N W : Int) (v : UInt64) : Prop := ∃ X Y, v = FP.ddiv X Y ∧ oQ N 8 X ∧ oQ W 5 Y
def oIr (R0 R1 R2 q0 q1 q2 : Int) (v0 v1 v2 : UInt64) : Prop :=
  (R0 ≤ R1 ∧ R1 ≤ R2 ∧ oQ R0 3 v0 ∧ oQ R1 3 v1 ∧ oQ R2 3 v2) ∨
  (R0 ≤ R1 ∧ R2 < R1 ∧ R0 * (q1 + q2) ≤ q1 * R1 + q2 * R2 ∧ oQ R0 3 v0 ∧ oDq (q1 * R1 + q2 * R2) (q1 + q2) v1 ∧ v1 = v2) ∨
  (R0 ≤ R1 ∧ R2 < R1 ∧ q1 * R1 + q2 * R2 < R0 * (q1 + q2) ∧ oDq (q0 * R0 + q1 * R1 + q2 * R2) (q0 + q1 + q2) v0 ∧ v0 = v1 ∧ v0 = v2) ∨
  (R1 < R0 ∧ q0 * R0 + q1 * R1 ≤ R2 * (q0 + q1) ∧ oDq (q0 * R0 + q1 * R1) (q0 + q1) v0 ∧ v0 = v1 ∧ oQ R2 3 v2) ∨
  (R1 < R0 ∧ R2 * (q0 + q1) < q0 * R0 + q1 * R1 ∧ oDq (q0 * R0 + q1 * R1 + q2 * R2) (q0 + q1 + q2) v0 ∧ v0 = v1 ∧ v0 = v2)
theorem oD83 {q R : Int} : q * R * ((2 ^ 5 : Nat) : Int) * ((2 ^ 3 : Nat) : Int) = R * (q * ((2 ^ 8 : Nat) : Int)) := by
  show q * R * 32 * 8 = R * (q * 256)
  rw [Int.mul_assoc (q * R) 32 8, Int.mul_comm q R, Int.mul_assoc R q]; rfl
theorem oDc {P q c : Int} (h : q * c = 8) : P * ((2 ^ 5 : Nat) : Int) * ((2 ^ 3 : Nat) : Int) = P * c * (q * ((2 ^ 5 : Nat) : Int)) := by
  show P * 32 * 8 = P * c * (q * 32)
  have e : P * c * (q * 32) = P * (q * c) * 32 := by
    rw [← Int.mul_assoc (P * c) q 32, Int.mul_assoc P c q, Int.mul_comm c q]
  rw [e, h]; omega
theorem oMBr {q R : Int} (hq : 0 ≤ q ∧ q ≤ 32) (hR : -68719476736 ≤ R ∧ R ≤ 68719476736) : -2199023255552 ≤ q * R ∧ q * R ≤ 2199023255552 := by
  have := oMBs hR hq
  rw [Int.mul_comm q R]; omega
theorem oMBw {W R : Int} (hW : 0 ≤ W ∧ W ≤ 32) (hR : -68719476736 ≤ R ∧ R ≤ 68719476736) : -2199023255552 ≤ R * W ∧ R * W ≤ 2199023255552 := by
  have := oMBs hR hW
  omega
theorem oAvg1 {q R X : Int} (h : 0 ≤ q) (a : R ≤ X) : q * R ≤ X * q := by rw [Int.mul_comm X q]; exact Int.mul_le_mul_of_nonneg_left a h
theorem oAvg2 {q0 q1 R0 R1 X : Int} (h0 : 0 ≤ q0) (h1 : 0 ≤ q1) (a : R0 ≤ X) (b : R1 ≤ X) : q0 * R0 + q1 * R1 ≤ X * (q0 + q1) := by
  have := oAvg1 h0 a; have := oAvg1 h1 b
  rw [Int.mul_add]; omega
theorem oAvg3 {q0 q1 q2 R0 R1 R2 X : Int} (h0 : 0 ≤ q0) (h1 : 0 ≤ q1) (h2 : 0 ≤ q2) (a : R0 ≤ X) (b : R1 ≤ X) (c : R2 ≤ X) : q0 * R0 + q1 * R1 + q2 * R2 ≤ X * (q0 + q1 + q2) := by
  have := oAvg2 h0 h1 a b; have := oAvg1 h2 c
  rw [Int.mul_add]; omega
theorem oPw {E : Nat} (h : E ≤ 3) : ∃ q c : Int, ((2 ^ E : Nat) : Int) = q ∧ ((2 ^ (3 - E) : Nat) : Int) = c ∧ q * c = 8 ∧ (1 ≤ q ∧ q ≤ 8) ∧ 1 ≤ c ∧ c ≤ 8 := by
  have q : E = 0 ∨ E = 1 ∨ E = 2 ∨ E = 3 := by omega
  rcases q with rfl | rfl | rfl | rfl
  · exact ⟨1, 8, by decide⟩
  · exact ⟨2, 4, by decide⟩
  · exact ⟨4, 2, by decide⟩
  · exact ⟨8, 1, by decide⟩
theorem oShr8 {z v : Int32} {E : Nat} (hz : z.toInt = (E : Int)) (hE : E ≤ 3) (e : v = (8 : Int32) >>> (z &&& 31)) : v.toInt = ((2 ^ (3 - E) : Nat) : Int) := by
  have h : z = Int32.ofNat E := oEq32.mpr (by rw [hz, Int32.toInt_ofNat_of_lt (by omega)])
  have D : ∀ E : Fin 4, ((8 : Int32) >>> ((Int32.ofNat E.val) &&& 31)).toInt = ((2 ^ (3 - E.val) : Nat) : Int) := by decide
  rw [e, h]; exact D ⟨E, by omega⟩

end Quo
theorem d3_0 : decode jdk_65_method_30_code 0 = .ok (.iload_n 1, 1) := by decide +kernel
theorem d3_1 : decode jdk_65_method_30_code 1 = .ok (.iload_n 2, 1) := by decide +kernel
theorem d3_2 : decode jdk_65_method_30_code 2 = .ok (.if_icmp .le 44, 3) := by decide +kernel
theorem d3_5 : decode jdk_65_method_30_code 5 = .ok (.new 43, 3) := by decide +kernel
theorem d3_8 : decode jdk_65_method_30_code 8 = .ok (.dup, 1) := by decide +kernel
theorem d3_9 : decode jdk_65_method_30_code 9 = .ok (.new 45, 3) := by decide +kernel
theorem d3_12 : decode jdk_65_method_30_code 12 = .ok (.dup, 1) := by decide +kernel
theorem d3_13 : decode jdk_65_method_30_code 13 = .ok (.invokespecial 47, 3) := by decide +kernel
theorem d3_16 : decode jdk_65_method_30_code 16 = .ok (.ldc 48, 2) := by decide +kernel
theorem d3_18 : decode jdk_65_method_30_code 18 = .ok (.invokevirtual 50, 3) := by decide +kernel
theorem d3_21 : decode jdk_65_method_30_code 21 = .ok (.iload_n 1, 1) := by decide +kernel
theorem d3_22 : decode jdk_65_method_30_code 22 = .ok (.invokevirtual 54, 3) := by decide +kernel
theorem d3_25 : decode jdk_65_method_30_code 25 = .ok (.ldc 57, 2) := by decide +kernel
theorem d3_27 : decode jdk_65_method_30_code 27 = .ok (.invokevirtual 50, 3) := by decide +kernel
theorem d3_30 : decode jdk_65_method_30_code 30 = .ok (.iload_n 2, 1) := by decide +kernel
theorem d3_31 : decode jdk_65_method_30_code 31 = .ok (.invokevirtual 54, 3) := by decide +kernel
theorem d3_34 : decode jdk_65_method_30_code 34 = .ok (.ldc 59, 2) := by decide +kernel
theorem d3_36 : decode jdk_65_method_30_code 36 = .ok (.invokevirtual 50, 3) := by decide +kernel
theorem d3_39 : decode jdk_65_method_30_code 39 = .ok (.invokevirtual 61, 3) := by decide +kernel
theorem d3_42 : decode jdk_65_method_30_code 42 = .ok (.invokespecial 65, 3) := by decide +kernel
theorem d3_45 : decode jdk_65_method_30_code 45 = .ok (.athrow, 1) := by decide +kernel
theorem d3_46 : decode jdk_65_method_30_code 46 = .ok (.iload_n 1, 1) := by decide +kernel
theorem d3_47 : decode jdk_65_method_30_code 47 = .ok (.ifCond .ge 12, 3) := by decide +kernel
theorem d3_50 : decode jdk_65_method_30_code 50 = .ok (.new 68, 3) := by decide +kernel
theorem d3_53 : decode jdk_65_method_30_code 53 = .ok (.dup, 1) := by decide +kernel
theorem d3_54 : decode jdk_65_method_30_code 54 = .ok (.iload_n 1, 1) := by decide +kernel
theorem d3_55 : decode jdk_65_method_30_code 55 = .ok (.invokespecial 70, 3) := by decide +kernel
theorem d3_58 : decode jdk_65_method_30_code 58 = .ok (.athrow, 1) := by decide +kernel
theorem d3_59 : decode jdk_65_method_30_code 59 = .ok (.iload_n 2, 1) := by decide +kernel
theorem d3_60 : decode jdk_65_method_30_code 60 = .ok (.iload_n 0, 1) := by decide +kernel
theorem d3_61 : decode jdk_65_method_30_code 61 = .ok (.if_icmp .le 12, 3) := by decide +kernel
theorem d3_64 : decode jdk_65_method_30_code 64 = .ok (.new 68, 3) := by decide +kernel
theorem d3_67 : decode jdk_65_method_30_code 67 = .ok (.dup, 1) := by decide +kernel
theorem d3_68 : decode jdk_65_method_30_code 68 = .ok (.iload_n 2, 1) := by decide +kernel
theorem d3_69 : decode jdk_65_method_30_code 69 = .ok (.invokespecial 70, 3) := by decide +kernel
theorem d3_72 : decode jdk_65_method_30_code 72 = .ok (.athrow, 1) := by decide +kernel
theorem d3_73 : decode jdk_65_method_30_code 73 = .ok (.return_, 1) := by decide +kernel
set_option maxRecDepth 65536 in
set_option maxHeartbeats 40000000 in
theorem own_rc {l : Launch} {Z : State} {a0 : Array Value} {h0 : Heap} (hw : ∀ d ∈ tables_1, d.before a0 Z = true) {ds0 : oDs} {xa ya za : Int32} (h1 : ¬ za < ya) (h2 : ¬ ya < 0) (h3 : ¬ xa < za) :
    oCtr l Z h0 [] (⟨"java/util/Arrays", "rangeCheck", "(III)V"⟩ : MethodName) jdk_65_method_30_code 3 none ({ frames := 0, cells := 0, slots := 0, locals := 0 } : Room) #[(.int xa), (.int ya), (.int za)] ds0 (oVoid fun d => d = ds0) := by
  refine oCtr.of (Ls := #[.val (.int xa), .val (.int ya), .val (.int za)]) (plainFor_of_name (by first | (simp [plainName, overriddenIn]; done) | decide +kernel)) (fun m => by first | (simp [entryFrame, mkF, argsToLocals, Value.category]; done) | rfl) ?_
  intro p e s m below meth c K
  refine oW.iloadN (pc' := 1) K d3_0 rfl rfl ?_
  refine oW.iloadN (pc' := 2) K d3_1 rfl rfl ?_
  refine oW.icmp_le (pc' := 46) (pc3 := 5) K d3_2 (by decide) (by decide) rfl (fun c2 => ?_) (fun q => absurd q h1)
  refine oW.iloadN (pc' := 47) K d3_46 rfl rfl ?_
  refine oW.if_ge (pc' := 59) (pc3 := 50) K d3_47 (by decide) (by decide) rfl (fun c47 => ?_) (fun q => absurd q (fun r => h2 r))
  refine oW.iloadN (pc' := 60) K d3_59 rfl rfl ?_
  refine oW.iloadN (pc' := 61) K d3_60 rfl rfl ?_
  refine oW.icmp_le (pc' := 73) (pc3 := 64) K d3_61 (by decide) (by decide) rfl (fun c61 => ?_) (fun q => absurd q h3)
  exact oW.retV K rfl d3_73 (by decide) (by decide) ⟨rfl, rfl⟩
theorem d1_0 : decode prog_19_method_2_code 0 = .ok (.aload_n 0, 1) := by decide +kernel
theorem d1_1 : decode prog_19_method_2_code 1 = .ok (.arraylength, 1) := by decide +kernel
theorem d1_2 : decode prog_19_method_2_code 2 = .ok (.istore_n 2, 1) := by decide +kernel
theorem d1_3 : decode prog_19_method_2_code 3 = .ok (.iload_n 2, 1) := by decide +kernel
theorem d1_4 : decode prog_19_method_2_code 4 = .ok (.newarray .double, 2) := by decide +kernel
theorem d1_6 : decode prog_19_method_2_code 6 = .ok (.astore_n 3, 1) := by decide +kernel
theorem d1_7 : decode prog_19_method_2_code 7 = .ok (.dconst 0, 1) := by decide +kernel
theorem d1_8 : decode prog_19_method_2_code 8 = .ok (.dstore 4, 2) := by decide +kernel
theorem d1_10 : decode prog_19_method_2_code 10 = .ok (.iload_n 2, 1) := by decide +kernel
theorem d1_11 : decode prog_19_method_2_code 11 = .ok (.iconst 1, 1) := by decide +kernel
theorem d1_12 : decode prog_19_method_2_code 12 = .ok (.isub, 1) := by decide +kernel
theorem d1_13 : decode prog_19_method_2_code 13 = .ok (.istore 6, 2) := by decide +kernel
theorem d1_15 : decode prog_19_method_2_code 15 = .ok (.iload 6, 2) := by decide +kernel
theorem d1_17 : decode prog_19_method_2_code 17 = .ok (.ifCond .lt 61, 3) := by decide +kernel
theorem d1_20 : decode prog_19_method_2_code 20 = .ok (.aload_n 3, 1) := by decide +kernel
theorem d1_21 : decode prog_19_method_2_code 21 = .ok (.iload 6, 2) := by decide +kernel
theorem d1_23 : decode prog_19_method_2_code 23 = .ok (.iload 6, 2) := by decide +kernel
theorem d1_25 : decode prog_19_method_2_code 25 = .ok (.iload_n 2, 1) := by decide +kernel
theorem d1_26 : decode prog_19_method_2_code 26 = .ok (.iconst 1, 1) := by decide +kernel
theorem d1_27 : decode prog_19_method_2_code 27 = .ok (.isub, 1) := by decide +kernel
theorem d1_28 : decode prog_19_method_2_code 28 = .ok (.if_icmp .ne 10, 3) := by decide +kernel
theorem d1_31 : decode prog_19_method_2_code 31 = .ok (.aload_n 0, 1) := by decide +kernel
theorem d1_32 : decode prog_19_method_2_code 32 = .ok (.iload 6, 2) := by decide +kernel
theorem d1_34 : decode prog_19_method_2_code 34 = .ok (.daload, 1) := by decide +kernel
theorem d1_35 : decode prog_19_method_2_code 35 = .ok (.goto 27, 3) := by decide +kernel
theorem d1_38 : decode prog_19_method_2_code 38 = .ok (.aload_n 0, 1) := by decide +kernel
theorem d1_39 : decode prog_19_method_2_code 39 = .ok (.iload 6, 2) := by decide +kernel
theorem d1_41 : decode prog_19_method_2_code 41 = .ok (.daload, 1) := by decide +kernel
theorem d1_42 : decode prog_19_method_2_code 42 = .ok (.aload_n 0, 1) := by decide +kernel
theorem d1_43 : decode prog_19_method_2_code 43 = .ok (.iload 6, 2) := by decide +kernel
theorem d1_45 : decode prog_19_method_2_code 45 = .ok (.iconst 1, 1) := by decide +kernel
theorem d1_46 : decode prog_19_method_2_code 46 = .ok (.iadd, 1) := by decide +kernel
theorem d1_47 : decode prog_19_method_2_code 47 = .ok (.daload, 1) := by decide +kernel
theorem d1_48 : decode prog_19_method_2_code 48 = .ok (.aload_n 0, 1) := by decide +kernel
theorem d1_49 : decode prog_19_method_2_code 49 = .ok (.iload 6, 2) := by decide +kernel
theorem d1_51 : decode prog_19_method_2_code 51 = .ok (.daload, 1) := by decide +kernel
theorem d1_52 : decode prog_19_method_2_code 52 = .ok (.dsub, 1) := by decide +kernel
theorem d1_53 : decode prog_19_method_2_code 53 = .ok (.dload 4, 2) := by decide +kernel
theorem d1_55 : decode prog_19_method_2_code 55 = .ok (.dmul, 1) := by decide +kernel
theorem d1_56 : decode prog_19_method_2_code 56 = .ok (.aload_n 1, 1) := by decide +kernel
theorem d1_57 : decode prog_19_method_2_code 57 = .ok (.iload 6, 2) := by decide +kernel
theorem d1_59 : decode prog_19_method_2_code 59 = .ok (.daload, 1) := by decide +kernel
theorem d1_60 : decode prog_19_method_2_code 60 = .ok (.ddiv, 1) := by decide +kernel
theorem d1_61 : decode prog_19_method_2_code 61 = .ok (.dsub, 1) := by decide +kernel
theorem d1_62 : decode prog_19_method_2_code 62 = .ok (.dastore, 1) := by decide +kernel
theorem d1_63 : decode prog_19_method_2_code 63 = .ok (.dload 4, 2) := by decide +kernel
theorem d1_65 : decode prog_19_method_2_code 65 = .ok (.aload_n 1, 1) := by decide +kernel
theorem d1_66 : decode prog_19_method_2_code 66 = .ok (.iload 6, 2) := by decide +kernel
theorem d1_68 : decode prog_19_method_2_code 68 = .ok (.daload, 1) := by decide +kernel
theorem d1_69 : decode prog_19_method_2_code 69 = .ok (.dadd, 1) := by decide +kernel
theorem d1_70 : decode prog_19_method_2_code 70 = .ok (.dstore 4, 2) := by decide +kernel
theorem d1_72 : decode prog_19_method_2_code 72 = .ok (.iinc 6 (-1), 3) := by decide +kernel
theorem d1_75 : decode prog_19_method_2_code 75 = .ok (.goto (-60), 3) := by decide +kernel
theorem d1_78 : decode prog_19_method_2_code 78 = .ok (.iload_n 2, 1) := by decide +kernel
theorem d1_79 : decode prog_19_method_2_code 79 = .ok (.newarray .int, 2) := by decide +kernel
theorem d1_81 : decode prog_19_method_2_code 81 = .ok (.astore 6, 2) := by decide +kernel
theorem d1_83 : decode prog_19_method_2_code 83 = .ok (.iload_n 2, 1) := by decide +kernel
theorem d1_84 : decode prog_19_method_2_code 84 = .ok (.newarray .double, 2) := by decide +kernel
theorem d1_86 : decode prog_19_method_2_code 86 = .ok (.astore 7, 2) := by decide +kernel
theorem d1_88 : decode prog_19_method_2_code 88 = .ok (.iload_n 2, 1) := by decide +kernel
theorem d1_89 : decode prog_19_method_2_code 89 = .ok (.newarray .double, 2) := by decide +kernel
theorem d1_91 : decode prog_19_method_2_code 91 = .ok (.astore 8, 2) := by decide +kernel
theorem d1_93 : decode prog_19_method_2_code 93 = .ok (.iconst 0, 1) := by decide +kernel
theorem d1_94 : decode prog_19_method_2_code 94 = .ok (.istore 9, 2) := by decide +kernel
theorem d1_96 : decode prog_19_method_2_code 96 = .ok (.iconst 0, 1) := by decide +kernel
theorem d1_97 : decode prog_19_method_2_code 97 = .ok (.istore 10, 2) := by decide +kernel
theorem d1_99 : decode prog_19_method_2_code 99 = .ok (.iload 10, 2) := by decide +kernel
theorem d1_101 : decode prog_19_method_2_code 101 = .ok (.iload_n 2, 1) := by decide +kernel
theorem d1_102 : decode prog_19_method_2_code 102 = .ok (.if_icmp .ge 122, 3) := by decide +kernel
theorem d1_105 : decode prog_19_method_2_code 105 = .ok (.aload 6, 2) := by decide +kernel
theorem d1_107 : decode prog_19_method_2_code 107 = .ok (.iload 9, 2) := by decide +kernel
theorem d1_109 : decode prog_19_method_2_code 109 = .ok (.iload 10, 2) := by decide +kernel
theorem d1_111 : decode prog_19_method_2_code 111 = .ok (.iastore, 1) := by decide +kernel
theorem d1_112 : decode prog_19_method_2_code 112 = .ok (.aload 7, 2) := by decide +kernel
theorem d1_114 : decode prog_19_method_2_code 114 = .ok (.iload 9, 2) := by decide +kernel
theorem d1_116 : decode prog_19_method_2_code 116 = .ok (.aload_n 1, 1) := by decide +kernel
theorem d1_117 : decode prog_19_method_2_code 117 = .ok (.iload 10, 2) := by decide +kernel
theorem d1_119 : decode prog_19_method_2_code 119 = .ok (.daload, 1) := by decide +kernel
theorem d1_120 : decode prog_19_method_2_code 120 = .ok (.dastore, 1) := by decide +kernel
theorem d1_121 : decode prog_19_method_2_code 121 = .ok (.aload 8, 2) := by decide +kernel
theorem d1_123 : decode prog_19_method_2_code 123 = .ok (.iload 9, 2) := by decide +kernel
theorem d1_125 : decode prog_19_method_2_code 125 = .ok (.aload_n 1, 1) := by decide +kernel
theorem d1_126 : decode prog_19_method_2_code 126 = .ok (.iload 10, 2) := by decide +kernel
theorem d1_128 : decode prog_19_method_2_code 128 = .ok (.daload, 1) := by decide +kernel
theorem d1_129 : decode prog_19_method_2_code 129 = .ok (.aload_n 3, 1) := by decide +kernel
theorem d1_130 : decode prog_19_method_2_code 130 = .ok (.iload 10, 2) := by decide +kernel
theorem d1_132 : decode prog_19_method_2_code 132 = .ok (.daload, 1) := by decide +kernel
theorem d1_133 : decode prog_19_method_2_code 133 = .ok (.dmul, 1) := by decide +kernel
theorem d1_134 : decode prog_19_method_2_code 134 = .ok (.dastore, 1) := by decide +kernel
theorem d1_135 : decode prog_19_method_2_code 135 = .ok (.iinc 9 1, 3) := by decide +kernel
theorem d1_138 : decode prog_19_method_2_code 138 = .ok (.iload 9, 2) := by decide +kernel
theorem d1_140 : decode prog_19_method_2_code 140 = .ok (.iconst 1, 1) := by decide +kernel
theorem d1_141 : decode prog_19_method_2_code 141 = .ok (.if_icmp .le 77, 3) := by decide +kernel
theorem d1_144 : decode prog_19_method_2_code 144 = .ok (.aload 8, 2) := by decide +kernel
theorem d1_146 : decode prog_19_method_2_code 146 = .ok (.iload 9, 2) := by decide +kernel
theorem d1_148 : decode prog_19_method_2_code 148 = .ok (.iconst 2, 1) := by decide +kernel
theorem d1_149 : decode prog_19_method_2_code 149 = .ok (.isub, 1) := by decide +kernel
theorem d1_150 : decode prog_19_method_2_code 150 = .ok (.daload, 1) := by decide +kernel
theorem d1_151 : decode prog_19_method_2_code 151 = .ok (.aload 7, 2) := by decide +kernel
theorem d1_153 : decode prog_19_method_2_code 153 = .ok (.iload 9, 2) := by decide +kernel
theorem d1_155 : decode prog_19_method_2_code 155 = .ok (.iconst 2, 1) := by decide +kernel
theorem d1_156 : decode prog_19_method_2_code 156 = .ok (.isub, 1) := by decide +kernel
theorem d1_157 : decode prog_19_method_2_code 157 = .ok (.daload, 1) := by decide +kernel
theorem d1_158 : decode prog_19_method_2_code 158 = .ok (.ddiv, 1) := by decide +kernel
theorem d1_159 : decode prog_19_method_2_code 159 = .ok (.aload 8, 2) := by decide +kernel
theorem d1_161 : decode prog_19_method_2_code 161 = .ok (.iload 9, 2) := by decide +kernel
theorem d1_163 : decode prog_19_method_2_code 163 = .ok (.iconst 1, 1) := by decide +kernel
theorem d1_164 : decode prog_19_method_2_code 164 = .ok (.isub, 1) := by decide +kernel
theorem d1_165 : decode prog_19_method_2_code 165 = .ok (.daload, 1) := by decide +kernel
theorem d1_166 : decode prog_19_method_2_code 166 = .ok (.aload 7, 2) := by decide +kernel
theorem d1_168 : decode prog_19_method_2_code 168 = .ok (.iload 9, 2) := by decide +kernel
theorem d1_170 : decode prog_19_method_2_code 170 = .ok (.iconst 1, 1) := by decide +kernel
theorem d1_171 : decode prog_19_method_2_code 171 = .ok (.isub, 1) := by decide +kernel
theorem d1_172 : decode prog_19_method_2_code 172 = .ok (.daload, 1) := by decide +kernel
theorem d1_173 : decode prog_19_method_2_code 173 = .ok (.ddiv, 1) := by decide +kernel
theorem d1_174 : decode prog_19_method_2_code 174 = .ok (.dcmp .l, 1) := by decide +kernel
theorem d1_175 : decode prog_19_method_2_code 175 = .ok (.ifCond .le 43, 3) := by decide +kernel
theorem d1_178 : decode prog_19_method_2_code 178 = .ok (.aload 7, 2) := by decide +kernel
theorem d1_180 : decode prog_19_method_2_code 180 = .ok (.iload 9, 2) := by decide +kernel
theorem d1_182 : decode prog_19_method_2_code 182 = .ok (.iconst 2, 1) := by decide +kernel
theorem d1_183 : decode prog_19_method_2_code 183 = .ok (.isub, 1) := by decide +kernel
theorem d1_184 : decode prog_19_method_2_code 184 = .ok (.dup2, 1) := by decide +kernel
theorem d1_185 : decode prog_19_method_2_code 185 = .ok (.daload, 1) := by decide +kernel
theorem d1_186 : decode prog_19_method_2_code 186 = .ok (.aload 7, 2) := by decide +kernel
theorem d1_188 : decode prog_19_method_2_code 188 = .ok (.iload 9, 2) := by decide +kernel
theorem d1_190 : decode prog_19_method_2_code 190 = .ok (.iconst 1, 1) := by decide +kernel
theorem d1_191 : decode prog_19_method_2_code 191 = .ok (.isub, 1) := by decide +kernel
theorem d1_192 : decode prog_19_method_2_code 192 = .ok (.daload, 1) := by decide +kernel
theorem d1_193 : decode prog_19_method_2_code 193 = .ok (.dadd, 1) := by decide +kernel
theorem d1_194 : decode prog_19_method_2_code 194 = .ok (.dastore, 1) := by decide +kernel
theorem d1_195 : decode prog_19_method_2_code 195 = .ok (.aload 8, 2) := by decide +kernel
theorem d1_197 : decode prog_19_method_2_code 197 = .ok (.iload 9, 2) := by decide +kernel
theorem d1_199 : decode prog_19_method_2_code 199 = .ok (.iconst 2, 1) := by decide +kernel
theorem d1_200 : decode prog_19_method_2_code 200 = .ok (.isub, 1) := by decide +kernel
theorem d1_201 : decode prog_19_method_2_code 201 = .ok (.dup2, 1) := by decide +kernel
theorem d1_202 : decode prog_19_method_2_code 202 = .ok (.daload, 1) := by decide +kernel
theorem d1_203 : decode prog_19_method_2_code 203 = .ok (.aload 8, 2) := by decide +kernel
theorem d1_205 : decode prog_19_method_2_code 205 = .ok (.iload 9, 2) := by decide +kernel
theorem d1_207 : decode prog_19_method_2_code 207 = .ok (.iconst 1, 1) := by decide +kernel
theorem d1_208 : decode prog_19_method_2_code 208 = .ok (.isub, 1) := by decide +kernel
theorem d1_209 : decode prog_19_method_2_code 209 = .ok (.daload, 1) := by decide +kernel
theorem d1_210 : decode prog_19_method_2_code 210 = .ok (.dadd, 1) := by decide +kernel
theorem d1_211 : decode prog_19_method_2_code 211 = .ok (.dastore, 1) := by decide +kernel
theorem d1_212 : decode prog_19_method_2_code 212 = .ok (.iinc 9 (-1), 3) := by decide +kernel
theorem d1_215 : decode prog_19_method_2_code 215 = .ok (.goto (-77), 3) := by decide +kernel
theorem d1_218 : decode prog_19_method_2_code 218 = .ok (.iinc 10 1, 3) := by decide +kernel
theorem d1_221 : decode prog_19_method_2_code 221 = .ok (.goto (-122), 3) := by decide +kernel
theorem d1_224 : decode prog_19_method_2_code 224 = .ok (.iload_n 2, 1) := by decide +kernel
theorem d1_225 : decode prog_19_method_2_code 225 = .ok (.newarray .double, 2) := by decide +kernel
theorem d1_227 : decode prog_19_method_2_code 227 = .ok (.astore 10, 2) := by decide +kernel
theorem d1_229 : decode prog_19_method_2_code 229 = .ok (.iconst 0, 1) := by decide +kernel
theorem d1_230 : decode prog_19_method_2_code 230 = .ok (.istore 11, 2) := by decide +kernel
theorem d1_232 : decode prog_19_method_2_code 232 = .ok (.iload 11, 2) := by decide +kernel
theorem d1_234 : decode prog_19_method_2_code 234 = .ok (.iload 9, 2) := by decide +kernel
theorem d1_236 : decode prog_19_method_2_code 236 = .ok (.if_icmp .ge 80, 3) := by decide +kernel
theorem d1_239 : decode prog_19_method_2_code 239 = .ok (.iload 11, 2) := by decide +kernel
theorem d1_241 : decode prog_19_method_2_code 241 = .ok (.iconst 1, 1) := by decide +kernel
theorem d1_242 : decode prog_19_method_2_code 242 = .ok (.iadd, 1) := by decide +kernel
theorem d1_243 : decode prog_19_method_2_code 243 = .ok (.iload 9, 2) := by decide +kernel
theorem d1_245 : decode prog_19_method_2_code 245 = .ok (.if_icmp .ge 13, 3) := by decide +kernel
theorem d1_248 : decode prog_19_method_2_code 248 = .ok (.aload 6, 2) := by decide +kernel
theorem d1_250 : decode prog_19_method_2_code 250 = .ok (.iload 11, 2) := by decide +kernel
theorem d1_252 : decode prog_19_method_2_code 252 = .ok (.iconst 1, 1) := by decide +kernel
theorem d1_253 : decode prog_19_method_2_code 253 = .ok (.iadd, 1) := by decide +kernel
theorem d1_254 : decode prog_19_method_2_code 254 = .ok (.iaload, 1) := by decide +kernel
theorem d1_255 : decode prog_19_method_2_code 255 = .ok (.goto 4, 3) := by decide +kernel
theorem d1_258 : decode prog_19_method_2_code 258 = .ok (.iload_n 2, 1) := by decide +kernel
theorem d1_259 : decode prog_19_method_2_code 259 = .ok (.istore 12, 2) := by decide +kernel
theorem d1_261 : decode prog_19_method_2_code 261 = .ok (.iload 12, 2) := by decide +kernel
theorem d1_263 : decode prog_19_method_2_code 263 = .ok (.aload 6, 2) := by decide +kernel
theorem d1_265 : decode prog_19_method_2_code 265 = .ok (.iload 11, 2) := by decide +kernel
theorem d1_267 : decode prog_19_method_2_code 267 = .ok (.iaload, 1) := by decide +kernel
theorem d1_268 : decode prog_19_method_2_code 268 = .ok (.isub, 1) := by decide +kernel
theorem d1_269 : decode prog_19_method_2_code 269 = .ok (.iconst 1, 1) := by decide +kernel
theorem d1_270 : decode prog_19_method_2_code 270 = .ok (.if_icmp .ne 13, 3) := by decide +kernel
theorem d1_273 : decode prog_19_method_2_code 273 = .ok (.aload_n 3, 1) := by decide +kernel
theorem d1_274 : decode prog_19_method_2_code 274 = .ok (.aload 6, 2) := by decide +kernel
theorem d1_276 : decode prog_19_method_2_code 276 = .ok (.iload 11, 2) := by decide +kernel
theorem d1_278 : decode prog_19_method_2_code 278 = .ok (.iaload, 1) := by decide +kernel
theorem d1_279 : decode prog_19_method_2_code 279 = .ok (.daload, 1) := by decide +kernel
theorem d1_280 : decode prog_19_method_2_code 280 = .ok (.goto 14, 3) := by decide +kernel
theorem d1_283 : decode prog_19_method_2_code 283 = .ok (.aload 8, 2) := by decide +kernel
theorem d1_285 : decode prog_19_method_2_code 285 = .ok (.iload 11, 2) := by decide +kernel
theorem d1_287 : decode prog_19_method_2_code 287 = .ok (.daload, 1) := by decide +kernel
theorem d1_288 : decode prog_19_method_2_code 288 = .ok (.aload 7, 2) := by decide +kernel
theorem d1_290 : decode prog_19_method_2_code 290 = .ok (.iload 11, 2) := by decide +kernel
theorem d1_292 : decode prog_19_method_2_code 292 = .ok (.daload, 1) := by decide +kernel
theorem d1_293 : decode prog_19_method_2_code 293 = .ok (.ddiv, 1) := by decide +kernel
theorem d1_294 : decode prog_19_method_2_code 294 = .ok (.dstore 13, 2) := by decide +kernel
theorem d1_296 : decode prog_19_method_2_code 296 = .ok (.aload 10, 2) := by decide +kernel
theorem d1_298 : decode prog_19_method_2_code 298 = .ok (.aload 6, 2) := by decide +kernel
theorem d1_300 : decode prog_19_method_2_code 300 = .ok (.iload 11, 2) := by decide +kernel
theorem d1_302 : decode prog_19_method_2_code 302 = .ok (.iaload, 1) := by decide +kernel
theorem d1_303 : decode prog_19_method_2_code 303 = .ok (.iload 12, 2) := by decide +kernel
theorem d1_305 : decode prog_19_method_2_code 305 = .ok (.dload 13, 2) := by decide +kernel
theorem d1_307 : decode prog_19_method_2_code 307 = .ok (.invokestatic 7, 3) := by decide +kernel
theorem d1_310 : decode prog_19_method_2_code 310 = .ok (.iinc 11 1, 3) := by decide +kernel
theorem d1_313 : decode prog_19_method_2_code 313 = .ok (.goto (-81), 3) := by decide +kernel
theorem d1_316 : decode prog_19_method_2_code 316 = .ok (.aload 10, 2) := by decide +kernel
theorem d1_318 : decode prog_19_method_2_code 318 = .ok (.areturn, 1) := by decide +kernel
theorem d2_0 : decode jdk_65_method_114_code 0 = .ok (.aload_n 0, 1) := by decide +kernel
theorem d2_1 : decode jdk_65_method_114_code 1 = .ok (.arraylength, 1) := by decide +kernel
theorem d2_2 : decode jdk_65_method_114_code 2 = .ok (.iload_n 1, 1) := by decide +kernel
theorem d2_3 : decode jdk_65_method_114_code 3 = .ok (.iload_n 2, 1) := by decide +kernel
theorem d2_4 : decode jdk_65_method_114_code 4 = .ok (.invokestatic 13, 3) := by decide +kernel
theorem d2_7 : decode jdk_65_method_114_code 7 = .ok (.iload_n 1, 1) := by decide +kernel
theorem d2_8 : decode jdk_65_method_114_code 8 = .ok (.istore 5, 2) := by decide +kernel
theorem d2_10 : decode jdk_65_method_114_code 10 = .ok (.iload 5, 2) := by decide +kernel
theorem d2_12 : decode jdk_65_method_114_code 12 = .ok (.iload_n 2, 1) := by decide +kernel
theorem d2_13 : decode jdk_65_method_114_code 13 = .ok (.if_icmp .ge 14, 3) := by decide +kernel
theorem d2_16 : decode jdk_65_method_114_code 16 = .ok (.aload_n 0, 1) := by decide +kernel
theorem d2_17 : decode jdk_65_method_114_code 17 = .ok (.iload 5, 2) := by decide +kernel
theorem d2_19 : decode jdk_65_method_114_code 19 = .ok (.dload_n 3, 1) := by decide +kernel
theorem d2_20 : decode jdk_65_method_114_code 20 = .ok (.dastore, 1) := by decide +kernel
theorem d2_21 : decode jdk_65_method_114_code 21 = .ok (.iinc 5 1, 3) := by decide +kernel
theorem d2_24 : decode jdk_65_method_114_code 24 = .ok (.goto (-14), 3) := by decide +kernel
theorem d2_27 : decode jdk_65_method_114_code 27 = .ok (.return_, 1) := by decide +kernel
theorem pd_0 : parseMethodDescriptor "(III)V" = some ⟨[.int, .int, .int], none⟩ := by decide +kernel
set_option maxRecDepth 65536 in
set_option maxHeartbeats 40000000 in
theorem own_fill_1_0_1 {l : Launch} {Z : State} {a0 : Array Value} {h0 : Heap} (hw : ∀ d ∈ tables_1, d.before a0 Z = true) {a0_ a1 a2 a3 a4 a5 a6 : Addr} {l0 l1 l2 l3 l4 l5 : List Value} {xv e0 : UInt64} :
    oCtr l Z h0 [] (⟨"java/util/Arrays", "fill", "([DIID)V"⟩ : MethodName) jdk_65_method_114_code 6 none ({ frames := 1, cells := 0, slots := 0, locals := 30 } : Room) #[(.ref a6), (.int (0 : Int32)), (.int (1 : Int32)), (.double xv)] [(a0_, .inl (.double, l0)), (a1, .inl (.double, l1)), (a2, .inl (.double, l2)), (a3, .inl (.int, l3)), (a4, .inl (.double, l4)), (a5, .inl (.double, l5)), (a6, .inl (.double, [(.double e0)]))] (oVoid fun d => d = [(a0_, .inl (.double, l0)), (a1, .inl (.double, l1)), (a2, .inl (.double, l2)), (a3, .inl (.int, l3)), (a4, .inl (.double, l4)), (a5, .inl (.double, l5)), (a6, .inl (.double, [(.double xv)]))]) := by
  refine oCtr.of (Ls := #[.val (.ref a6), .val (.int (0 : Int32)), .val (.int (1 : Int32)), .val (.double xv), .second, .unset]) (plainFor_of_name (by first | (simp [plainName, overriddenIn]; done) | decide +kernel)) (fun m => by first | (simp [entryFrame, mkF, argsToLocals, Value.category]; done) | rfl) ?_
  intro p e s m below meth c K
  refine oW.aloadN (pc' := 1) K d2_0 rfl rfl rfl ?_
  refine oW.alen (i := 6) (v := (1 : Int32)) (pc' := 2) K d2_1 rfl rfl rfl ?_
  refine oW.iloadN (pc' := 3) K d2_2 rfl rfl ?_
  refine oW.iloadN (pc' := 4) K d2_3 rfl rfl ?_
  refine oW.callS0 (argsL := [(.int (1 : Int32)), (.int (0 : Int32)), (.int (1 : Int32))]) (S := []) (rm := ({ frames := 0, cells := 0, slots := 0, locals := 0 } : Room)) (W := 0) (cells' := 0) (slots' := 0) (pc' := 7) K (hw _ (List.mem_of_getElem? (i := 13) rfl)) (hw _ (List.mem_of_getElem? (i := 14) rfl)) (hw _ (List.mem_of_getElem? (i := 11) rfl)) (hw _ (List.mem_of_getElem? (i := 15) rfl)) (by decide) (own_rc hw (by decide) (by decide) (by decide)) (lenOf pd_0 rfl) d2_4 rfl rfl (Nat.le_of_eq rfl) (by decide) (by decide) (by decide) (by decide) rfl rfl rfl ?_
  rintro _ rfl
  refine oW.iloadN (pc' := 8) K d2_7 rfl rfl ?_
  refine oW.istore (Ls' := #[.val (.ref a6), .val (.int (0 : Int32)), .val (.int (1 : Int32)), .val (.double xv), .second, .val (.int (0 : Int32))]) (pc' := 10) K d2_8 rfl rfl ?_
  refine oW.iload (pc' := 12) K d2_10 rfl rfl ?_
  refine oW.iloadN (pc' := 13) K d2_12 rfl rfl ?_
  refine oW.icmp_ge (pc' := 27) (pc3 := 16) K d2_13 (by decide) (by decide) rfl (fun q => absurd q (by decide)) (fun _ => ?_)
  refine oW.aloadN (pc' := 17) K d2_16 rfl rfl rfl ?_
  refine oW.iload (pc' := 19) K d2_17 rfl rfl ?_
  refine oW.dloadN (pc' := 20) K d2_19 rfl rfl ?_
  refine oW.dastore (i := 6) (k := 0) (ds' := [(a0_, .inl (.double, l0)), (a1, .inl (.double, l1)), (a2, .inl (.double, l2)), (a3, .inl (.int, l3)), (a4, .inl (.double, l4)), (a5, .inl (.double, l5)), (a6, .inl (.double, [(.double xv)]))]) (pc' := 21) K d2_20 rfl rfl (by decide) (Nat.lt_of_sub_eq_succ rfl) rfl rfl ?_
  refine oW.iinc (v := (1 : Int32)) (Ls' := #[.val (.ref a6), .val (.int (0 : Int32)), .val (.int (1 : Int32)), .val (.double xv), .second, .val (.int (1 : Int32))]) (pc' := 24) K d2_21 rfl (by decide) rfl rfl ?_
  refine oW.goto (pc' := 10) K d2_24 (by decide) (by decide) ?_
  refine oW.iload (pc' := 12) K d2_10 rfl rfl ?_
  refine oW.iloadN (pc' := 13) K d2_12 rfl rfl ?_
  refine oW.icmp_ge (pc' := 27) (pc3 := 16) K d2_13 (by decide) (by decide) rfl (fun _ => ?_) (fun q => absurd q (by decide))
  exact oW.retV K rfl d2_27 (by decide) (by decide) ⟨rfl, rfl⟩
theorem pd_1 : parseMethodDescriptor "([DIID)V" = some ⟨[(.array .double), .int, .int, .double], none⟩ := by decide +kernel
set_option maxRecDepth 65536 in
set_option maxHeartbeats 40000000 in
theorem own_ir1 {l : Launch} {Z : State} {a0 : Array Value} {h0 : Heap} (hw : ∀ d ∈ tables_1, d.before a0 Z = true) {a b : Addr} {s0 p0 : UInt64} {u0 q0 R0 : Int} (hs0 : oQ u0 0 s0) (hp0 : oQ q0 5 p0) (hq0 : 1 ≤ q0 ∧ q0 ≤ 32) (hu0 : -8589934592 ≤ u0 ∧ u0 ≤ 8589934592) (hb0 : -68719476736 ≤ R0 ∧ R0 ≤ 68719476736) (hsum : q0 ≤ 32) (hR0 : u0 * 8 = R0) :
    oCtr l Z h0 [] (⟨"com/example/arrivage/arrivage/mechanism/VirtualValues", "ironed", "([D[D)[D"⟩ : MethodName) prog_19_method_2_code 15 (some (.array .double)) ({ frames := 2, cells := 5, slots := 20, locals := 60 } : Room) #[(.ref a), (.ref b)] [(a, .inl (.double, [(.double s0)])), (b, .inl (.double, [(.double p0)]))] (oVal fun w d => ∃ (a2 a3 a4 a5 a6 : Addr) (l2 l3 l4 l5 : List Value) (v0 : UInt64), w = .ref a6 ∧ d = [(a, .inl (.double, [(.double s0)])), (b, .inl (.double, [(.double p0)])), (a2, .inl (.double, l2)), (a3, .inl (.int, l3)), (a4, .inl (.double, l4)), (a5, .inl (.double, l5)), (a6, .inl (.double, [(.double v0)]))] ∧ oQ R0 3 v0) := by
  refine oCtr.of (Ls := #[.val (.ref a), .val (.ref b), .unset, .unset, .unset, .unset, .unset, .unset, .unset, .unset, .unset, .unset, .unset, .unset, .unset]) (plainFor_of_name (by first | (simp [plainName, overriddenIn]; done) | decide +kernel)) (fun m => by first | (simp [entryFrame, mkF, argsToLocals, Value.category]; done) | rfl) ?_
  intro p e s m below meth c K
  have hN0 := oMBr (q := q0) (R := R0) (by omega) hb0
  refine oW.aloadN (pc' := 1) K d1_0 rfl rfl rfl ?_
  refine oW.alen (i := 0) (v := (1 : Int32)) (pc' := 2) K d1_1 rfl rfl rfl ?_
  refine oW.istoreN (Ls' := #[.val (.ref a), .val (.ref b), .val (.int (1 : Int32)), .unset, .unset, .unset, .unset, .unset, .unset, .unset, .unset, .unset, .unset, .unset, .unset]) (pc' := 3) K d1_2 rfl rfl ?_
  refine oW.iloadN (pc' := 4) K d1_3 rfl rfl ?_
  refine oW.newarr (n := 1) (cells' := 1) (slots' := 1) (dsf := fun z => [(a, .inl (.double, [(.double s0)])), (b, .inl (.double, [(.double p0)])), (z, .inl (.double, [(.double (0 : UInt64))]))]) (pc' := 6) K (hw _ (List.mem_of_getElem? (i := 2) rfl)) d1_4 rfl (by decide) (by decide) (by decide) (by decide) rfl rfl (fun _ => rfl) rfl ?_
  intro a4 ha4
  refine oW.astoreN (Ls' := #[.val (.ref a), .val (.ref b), .val (.int (1 : Int32)), .val (.ref a4), .unset, .unset, .unset, .unset, .unset, .unset, .unset, .unset, .unset, .unset, .unset]) (pc' := 7) K d1_6 rfl rfl rfl ?_
  refine oW.dconst0 (pc' := 8) K d1_7 rfl ?_
  refine oW.dstore (Ls' := #[.val (.ref a), .val (.ref b), .val (.int (1 : Int32)), .val (.ref a4), .val (.double (0 : UInt64)), .second, .unset, .unset, .unset, .unset, .unset, .unset, .unset, .unset, .unset]) (pc' := 10) K d1_8 rfl rfl ?_
  refine oW.iloadN (pc' := 11) K d1_10 rfl rfl ?_
  refine oW.iconst (v := (1 : Int32)) (pc' := 12) K d1_11 (by decide) rfl ?_
  refine oW.isub (v := (0 : Int32)) (pc' := 13) K d1_12 (by decide) rfl ?_
  refine oW.istore (Ls' := #[.val (.ref a), .val (.ref b), .val (.int (1 : Int32)), .val (.ref a4), .val (.double (0 : UInt64)), .second, .val (.int (0 : Int32)), .unset, .unset, .unset, .unset, .unset, .unset, .unset, .unset]) (pc' := 15) K d1_13 rfl rfl ?_
  refine oW.iload (pc' := 17) K d1_15 rfl rfl ?_
  refine oW.if_lt (pc' := 78) (pc3 := 20) K d1_17 (by decide) (by decide) rfl (fun q => absurd q (by decide)) (fun _ => ?_)
  refine oW.aloadN (pc' := 21) K d1_20 rfl rfl rfl ?_
  refine oW.iload (pc' := 23) K d1_21 rfl rfl ?_
  refine oW.iload (pc' := 25) K d1_23 rfl rfl ?_
  refine oW.iloadN (pc' := 26) K d1_25 rfl rfl ?_
  refine oW.iconst (v := (1 : Int32)) (pc' := 27) K d1_26 (by decide) rfl ?_
  refine oW.isub (v := (0 : Int32)) (pc' := 28) K d1_27 (by decide) rfl ?_
  refine oW.icmp_ne (pc' := 38) (pc3 := 31) K d1_28 (by decide) (by decide) rfl (fun q => absurd q (by decide)) (fun _ => ?_)
  refine oW.aloadN (pc' := 32) K d1_31 rfl rfl rfl ?_
  refine oW.iload (pc' := 34) K d1_32 rfl rfl ?_
  refine oW.daload (i := 0) (k := 0) (pc' := 35) K d1_34 rfl rfl (by decide) rfl rfl ?_
  refine oW.goto (pc' := 62) K d1_35 (by decide) (by decide) ?_
  refine oW.dastore (i := 2) (k := 0) (ds' := [(a, .inl (.double, [(.double s0)])), (b, .inl (.double, [(.double p0)])), (a4, .inl (.double, [(.double s0)]))]) (pc' := 63) K d1_62 rfl rfl (by decide) (Nat.lt_of_sub_eq_succ rfl) rfl rfl ?_
  refine oW.dload (pc' := 65) K d1_63 rfl rfl ?_
  refine oW.aloadN (pc' := 66) K d1_65 rfl rfl rfl ?_
  refine oW.iload (pc' := 68) K d1_66 rfl rfl ?_
  refine oW.daload (i := 1) (k := 0) (pc' := 69) K d1_68 rfl rfl (by decide) rfl rfl ?_
  obtain ⟨v69, ev69⟩ : ∃ t_ : UInt64, t_ = FP.dadd (0 : UInt64) p0 := ⟨_, rfl⟩
  have qv69 : oQ (0 + q0) 5 v69 := ((oQ0 5).add hp0 ev69 (by decide) (by omega)).cast rfl (by omega)
  refine oW.dadd (pc' := 70) K d1_69 ev69 (qv69.nn) rfl ?_
  refine oW.dstore (Ls' := #[.val (.ref a), .val (.ref b), .val (.int (1 : Int32)), .val (.ref a4), .val (.double v69), .second, .val (.int (0 : Int32)), .unset, .unset, .unset, .unset, .unset, .unset, .unset, .unset]) (pc' := 72) K d1_70 rfl rfl ?_
  refine oW.iinc (v := (-1 : Int32)) (Ls' := #[.val (.ref a), .val (.ref b), .val (.int (1 : Int32)), .val (.ref a4), .val (.double v69), .second, .val (.int (-1 : Int32)), .unset, .unset, .unset, .unset, .unset, .unset, .unset, .unset]) (pc' := 75) K d1_72 rfl (by decide) rfl rfl ?_
  refine oW.goto (pc' := 15) K d1_75 (by decide) (by decide) ?_
  refine oW.iload (pc' := 17) K d1_15 rfl rfl ?_
  refine oW.if_lt (pc' := 78) (pc3 := 20) K d1_17 (by decide) (by decide) rfl (fun _ => ?_) (fun q => absurd q (by decide))
  refine oW.iloadN (pc' := 79) K d1_78 rfl rfl ?_
  refine oW.newarr (n := 1) (cells' := 2) (slots' := 2) (dsf := fun z => [(a, .inl (.double, [(.double s0)])), (b, .inl (.double, [(.double p0)])), (a4, .inl (.double, [(.double s0)])), (z, .inl (.int, [(.int (0 : Int32))]))]) (pc' := 81) K (hw _ (List.mem_of_getElem? (i := 8) rfl)) d1_79 rfl (by decide) (by decide) (by decide) (by decide) rfl rfl (fun _ => rfl) rfl ?_
  intro a79 ha79
  refine oW.astore (Ls' := #[.val (.ref a), .val (.ref b), .val (.int (1 : Int32)), .val (.ref a4), .val (.double v69), .second, .val (.ref a79), .unset, .unset, .unset, .unset, .unset, .unset, .unset, .unset]) (pc' := 83) K d1_81 rfl rfl rfl ?_
  refine oW.iloadN (pc' := 84) K d1_83 rfl rfl ?_
  refine oW.newarr (n := 1) (cells' := 3) (slots' := 3) (dsf := fun z => [(a, .inl (.double, [(.double s0)])), (b, .inl (.double, [(.double p0)])), (a4, .inl (.double, [(.double s0)])), (a79, .inl (.int, [(.int (0 : Int32))])), (z, .inl (.double, [(.double (0 : UInt64))]))]) (pc' := 86) K (hw _ (List.mem_of_getElem? (i := 2) rfl)) d1_84 rfl (by decide) (by decide) (by decide) (by decide) rfl rfl (fun _ => rfl) rfl ?_
  intro a84 ha84
  refine oW.astore (Ls' := #[.val (.ref a), .val (.ref b), .val (.int (1 : Int32)), .val (.ref a4), .val (.double v69), .second, .val (.ref a79), .val (.ref a84), .unset, .unset, .unset, .unset, .unset, .unset, .unset]) (pc' := 88) K d1_86 rfl rfl rfl ?_
  refine oW.iloadN (pc' := 89) K d1_88 rfl rfl ?_
  refine oW.newarr (n := 1) (cells' := 4) (slots' := 4) (dsf := fun z => [(a, .inl (.double, [(.double s0)])), (b, .inl (.double, [(.double p0)])), (a4, .inl (.double, [(.double s0)])), (a79, .inl (.int, [(.int (0 : Int32))])), (a84, .inl (.double, [(.double (0 : UInt64))])), (z, .inl (.double, [(.double (0 : UInt64))]))]) (pc' := 91) K (hw _ (List.mem_of_getElem? (i := 2) rfl)) d1_89 rfl (by decide) (by decide) (by decide) (by decide) rfl rfl (fun _ => rfl) rfl ?_
  intro a89 ha89
  refine oW.astore (Ls' := #[.val (.ref a), .val (.ref b), .val (.int (1 : Int32)), .val (.ref a4), .val (.double v69), .second, .val (.ref a79), .val (.ref a84), .val (.ref a89), .unset, .unset, .unset, .unset, .unset, .unset]) (pc' := 93) K d1_91 rfl rfl rfl ?_
  refine oW.iconst (v := (0 : Int32)) (pc' := 94) K d1_93 (by decide) rfl ?_
  refine oW.istore (Ls' := #[.val (.ref a), .val (.ref b), .val (.int (1 : Int32)), .val (.ref a4), .val (.double v69), .second, .val (.ref a79), .val (.ref a84), .val (.ref a89), .val (.int (0 : Int32)), .unset, .unset, .unset, .unset, .unset]) (pc' := 96) K d1_94 rfl rfl ?_
  refine oW.iconst (v := (0 : Int32)) (pc' := 97) K d1_96 (by decide) rfl ?_
  refine oW.istore (Ls' := #[.val (.ref a), .val (.ref b), .val (.int (1 : Int32)), .val (.ref a4), .val (.double v69), .second, .val (.ref a79), .val (.ref a84), .val (.ref a89), .val (.int (0 : Int32)), .val (.int (0 : Int32)), .unset, .unset, .unset, .unset]) (pc' := 99) K d1_97 rfl rfl ?_
  refine oW.iload (pc' := 101) K d1_99 rfl rfl ?_
  refine oW.iloadN (pc' := 102) K d1_101 rfl rfl ?_
  refine oW.icmp_ge (pc' := 224) (pc3 := 105) K d1_102 (by decide) (by decide) rfl (fun q => absurd q (by decide)) (fun _ => ?_)
  refine oW.aload (pc' := 107) K d1_105 rfl rfl rfl ?_
  refine oW.iload (pc' := 109) K d1_107 rfl rfl ?_
  refine oW.iload (pc' := 111) K d1_109 rfl rfl ?_
  refine oW.iastore (i := 3) (k := 0) (ds' := [(a, .inl (.double, [(.double s0)])), (b, .inl (.double, [(.double p0)])), (a4, .inl (.double, [(.double s0)])), (a79, .inl (.int, [(.int (0 : Int32))])), (a84, .inl (.double, [(.double (0 : UInt64))])), (a89, .inl (.double, [(.double (0 : UInt64))]))]) (pc' := 112) K d1_111 rfl rfl (by decide) (Nat.lt_of_sub_eq_succ rfl) rfl rfl ?_
  refine oW.aload (pc' := 114) K d1_112 rfl rfl rfl ?_
  refine oW.iload (pc' := 116) K d1_114 rfl rfl ?_
  refine oW.aloadN (pc' := 117) K d1_116 rfl rfl rfl ?_
  refine oW.iload (pc' := 119) K d1_117 rfl rfl ?_
  refine oW.daload (i := 1) (k := 0) (pc' := 120) K d1_119 rfl rfl (by decide) rfl rfl ?_
  refine oW.dastore (i := 4) (k := 0) (ds' := [(a, .inl (.double, [(.double s0)])), (b, .inl (.double, [(.double p0)])), (a4, .inl (.double, [(.double s0)])), (a79, .inl (.int, [(.int (0 : Int32))])), (a84, .inl (.double, [(.double p0)])), (a89, .inl (.double, [(.double (0 : UInt64))]))]) (pc' := 121) K d1_120 rfl rfl (by decide) (Nat.lt_of_sub_eq_succ rfl) rfl rfl ?_
  refine oW.aload (pc' := 123) K d1_121 rfl rfl rfl ?_
  refine oW.iload (pc' := 125) K d1_123 rfl rfl ?_
  refine oW.aloadN (pc' := 126) K d1_125 rfl rfl rfl ?_
  refine oW.iload (pc' := 128) K d1_126 rfl rfl ?_
  refine oW.daload (i := 1) (k := 0) (pc' := 129) K d1_128 rfl rfl (by decide) rfl rfl ?_
  refine oW.aloadN (pc' := 130) K d1_129 rfl rfl rfl ?_
  refine oW.iload (pc' := 132) K d1_130 rfl rfl ?_
  refine oW.daload (i := 2) (k := 0) (pc' := 133) K d1_132 rfl rfl (by decide) rfl rfl ?_
  obtain ⟨v133, ev133⟩ : ∃ t_ : UInt64, t_ = FP.dmul p0 s0 := ⟨_, rfl⟩
  have qv133 : oQ (q0 * R0) 8 v133 := (hp0.mul (hs0.up 3 rfl (by decide) hR0) ev133 (by decide) (by omega)).cast rfl rfl
  refine oW.dmul (pc' := 134) K d1_133 ev133 (qv133.nn) rfl ?_
  refine oW.dastore (i := 5) (k := 0) (ds' := [(a, .inl (.double, [(.double s0)])), (b, .inl (.double, [(.double p0)])), (a4, .inl (.double, [(.double s0)])), (a79, .inl (.int, [(.int (0 : Int32))])), (a84, .inl (.double, [(.double p0)])), (a89, .inl (.double, [(.double v133)]))]) (pc' := 135) K d1_134 rfl rfl (by decide) (Nat.lt_of_sub_eq_succ rfl) rfl rfl ?_
  refine oW.iinc (v := (1 : Int32)) (Ls' := #[.val (.ref a), .val (.ref b), .val (.int (1 : Int32)), .val (.ref a4), .val (.double v69), .second, .val (.ref a79), .val (.ref a84), .val (.ref a89), .val (.int (1 : Int32)), .val (.int (0 : Int32)), .unset, .unset, .unset, .unset]) (pc' := 138) K d1_135 rfl (by decide) rfl rfl ?_
  refine oW.iload (pc' := 140) K d1_138 rfl rfl ?_
  refine oW.iconst (v := (1 : Int32)) (pc' := 141) K d1_140 (by decide) rfl ?_
  refine oW.icmp_le (pc' := 218) (pc3 := 144) K d1_141 (by decide) (by decide) rfl (fun _ => ?_) (fun q => absurd q (by decide))
  refine oW.iinc (v := (1 : Int32)) (Ls' := #[.val (.ref a), .val (.ref b), .val (.int (1 : Int32)), .val (.ref a4), .val (.double v69), .second, .val (.ref a79), .val (.ref a84), .val (.ref a89), .val (.int (1 : Int32)), .val (.int (1 : Int32)), .unset, .unset, .unset, .unset]) (pc' := 221) K d1_218 rfl (by decide) rfl rfl ?_
  refine oW.goto (pc' := 99) K d1_221 (by decide) (by decide) ?_
  refine oW.iload (pc' := 101) K d1_99 rfl rfl ?_
  refine oW.iloadN (pc' := 102) K d1_101 rfl rfl ?_
  refine oW.icmp_ge (pc' := 224) (pc3 := 105) K d1_102 (by decide) (by decide) rfl (fun _ => ?_) (fun q => absurd q (by decide))
  refine oW.iloadN (pc' := 225) K d1_224 rfl rfl ?_
  refine oW.newarr (n := 1) (cells' := 5) (slots' := 5) (dsf := fun z => [(a, .inl (.double, [(.double s0)])), (b, .inl (.double, [(.double p0)])), (a4, .inl (.double, [(.double s0)])), (a79, .inl (.int, [(.int (0 : Int32))])), (a84, .inl (.double, [(.double p0)])), (a89, .inl (.double, [(.double v133)])), (z, .inl (.double, [(.double (0 : UInt64))]))]) (pc' := 227) K (hw _ (List.mem_of_getElem? (i := 2) rfl)) d1_225 rfl (by decide) (by decide) (by decide) (by decide) rfl rfl (fun _ => rfl) rfl ?_
  intro a225 ha225
  refine oW.astore (Ls' := #[.val (.ref a), .val (.ref b), .val (.int (1 : Int32)), .val (.ref a4), .val (.double v69), .second, .val (.ref a79), .val (.ref a84), .val (.ref a89), .val (.int (1 : Int32)), .val (.ref a225), .unset, .unset, .unset, .unset]) (pc' := 229) K d1_227 rfl rfl rfl ?_
  refine oW.iconst (v := (0 : Int32)) (pc' := 230) K d1_229 (by decide) rfl ?_
  refine oW.istore (Ls' := #[.val (.ref a), .val (.ref b), .val (.int (1 : Int32)), .val (.ref a4), .val (.double v69), .second, .val (.ref a79), .val (.ref a84), .val (.ref a89), .val (.int (1 : Int32)), .val (.ref a225), .val (.int (0 : Int32)), .unset, .unset, .unset]) (pc' := 232) K d1_230 rfl rfl ?_
  refine oW.iload (pc' := 234) K d1_232 rfl rfl ?_
  refine oW.iload (pc' := 236) K d1_234 rfl rfl ?_
  refine oW.icmp_ge (pc' := 316) (pc3 := 239) K d1_236 (by decide) (by decide) rfl (fun q => absurd q (by decide)) (fun _ => ?_)
  refine oW.iload (pc' := 241) K d1_239 rfl rfl ?_
  refine oW.iconst (v := (1 : Int32)) (pc' := 242) K d1_241 (by decide) rfl ?_
  refine oW.iadd (v := (1 : Int32)) (pc' := 243) K d1_242 (by decide) rfl ?_
  refine oW.iload (pc' := 245) K d1_243 rfl rfl ?_
  refine oW.icmp_ge (pc' := 258) (pc3 := 248) K d1_245 (by decide) (by decide) rfl (fun _ => ?_) (fun q => absurd q (by decide))
  refine oW.iloadN (pc' := 259) K d1_258 rfl rfl ?_
  refine oW.istore (Ls' := #[.val (.ref a), .val (.ref b), .val (.int (1 : Int32)), .val (.ref a4), .val (.double v69), .second, .val (.ref a79), .val (.ref a84), .val (.ref a89), .val (.int (1 : Int32)), .val (.ref a225), .val (.int (0 : Int32)), .val (.int (1 : Int32)), .unset, .unset]) (pc' := 261) K d1_259 rfl rfl ?_
  refine oW.iload (pc' := 263) K d1_261 rfl rfl ?_
  refine oW.aload (pc' := 265) K d1_263 rfl rfl rfl ?_
  refine oW.iload (pc' := 267) K d1_265 rfl rfl ?_
  refine oW.iaload (i := 3) (k := 0) (pc' := 268) K d1_267 rfl rfl (by decide) rfl rfl ?_
  refine oW.isub (v := (1 : Int32)) (pc' := 269) K d1_268 (by decide) rfl ?_
  refine oW.iconst (v := (1 : Int32)) (pc' := 270) K d1_269 (by decide) rfl ?_
  refine oW.icmp_ne (pc' := 283) (pc3 := 273) K d1_270 (by decide) (by decide) rfl (fun q => absurd q (by decide)) (fun _ => ?_)
  refine oW.aloadN (pc' := 274) K d1_273 rfl rfl rfl ?_
  refine oW.aload (pc' := 276) K d1_274 rfl rfl rfl ?_
  refine oW.iload (pc' := 278) K d1_276 rfl rfl ?_
  refine oW.iaload (i := 3) (k := 0) (pc' := 279) K d1_278 rfl rfl (by decide) rfl rfl ?_
  refine oW.daload (i := 2) (k := 0) (pc' := 280) K d1_279 rfl rfl (by decide) rfl rfl ?_
  refine oW.goto (pc' := 294) K d1_280 (by decide) (by decide) ?_
  refine oW.dstore (Ls' := #[.val (.ref a), .val (.ref b), .val (.int (1 : Int32)), .val (.ref a4), .val (.double v69), .second, .val (.ref a79), .val (.ref a84), .val (.ref a89), .val (.int (1 : Int32)), .val (.ref a225), .val (.int (0 : Int32)), .val (.int (1 : Int32)), .val (.double s0), .second]) (pc' := 296) K d1_294 rfl rfl ?_
  refine oW.aload (pc' := 298) K d1_296 rfl rfl rfl ?_
  refine oW.aload (pc' := 300) K d1_298 rfl rfl rfl ?_
  refine oW.iload (pc' := 302) K d1_300 rfl rfl ?_
  refine oW.iaload (i := 3) (k := 0) (pc' := 303) K d1_302 rfl rfl (by decide) rfl rfl ?_
  refine oW.iload (pc' := 305) K d1_303 rfl rfl ?_
  refine oW.dload (pc' := 307) K d1_305 rfl rfl ?_
  refine oW.callS0 (argsL := [(.ref a225), (.int (0 : Int32)), (.int (1 : Int32)), (.double s0)]) (S := []) (rm := ({ frames := 1, cells := 0, slots := 0, locals := 30 } : Room)) (W := 0) (cells' := 5) (slots' := 5) (pc' := 310) K (hw _ (List.mem_of_getElem? (i := 9) rfl)) (hw _ (List.mem_of_getElem? (i := 10) rfl)) (hw _ (List.mem_of_getElem? (i := 11) rfl)) (hw _ (List.mem_of_getElem? (i := 12) rfl)) (by decide) (own_fill_1_0_1 hw) (lenOf pd_1 rfl) d1_307 rfl rfl (Nat.le_of_eq rfl) (by decide) (by decide) (by decide) (by decide) rfl rfl rfl ?_
  rintro _ rfl
  refine oW.iinc (v := (1 : Int32)) (Ls' := #[.val (.ref a), .val (.ref b), .val (.int (1 : Int32)), .val (.ref a4), .val (.double v69), .second, .val (.ref a79), .val (.ref a84), .val (.ref a89), .val (.int (1 : Int32)), .val (.ref a225), .val (.int (1 : Int32)), .val (.int (1 : Int32)), .val (.double s0), .second]) (pc' := 313) K d1_310 rfl (by decide) rfl rfl ?_
  refine oW.goto (pc' := 232) K d1_313 (by decide) (by decide) ?_
  refine oW.iload (pc' := 234) K d1_232 rfl rfl ?_
  refine oW.iload (pc' := 236) K d1_234 rfl rfl ?_
  refine oW.icmp_ge (pc' := 316) (pc3 := 239) K d1_236 (by decide) (by decide) rfl (fun _ => ?_) (fun q => absurd q (by decide))
  refine oW.aload (pc' := 318) K d1_316 rfl rfl rfl ?_
  exact oW.retA K rfl rfl rfl d1_318 (by decide) (by decide) ⟨_, rfl, _, _, _, _, _, _, _, _, _, _, rfl, rfl, (hs0.up 3 rfl (by decide) hR0)⟩
set_option maxRecDepth 65536 in
set_option maxHeartbeats 40000000 in
theorem own_fill_2_0_1 {l : Launch} {Z : State} {a0 : Array Value} {h0 : Heap} (hw : ∀ d ∈ tables_1, d.before a0 Z = true) {a0_ a1 a2 a3 a4 a5 a6 : Addr} {l0 l1 l2 l3 l4 l5 : List Value} {xv e0 e1 : UInt64} :
    oCtr l Z h0 [] (⟨"java/util/Arrays", "fill", "([DIID)V"⟩ : MethodName) jdk_65_method_114_code 6 none ({ frames := 1, cells := 0, slots := 0, locals := 30 } : Room) #[(.ref a6), (.int (0 : Int32)), (.int (1 : Int32)), (.double xv)] [(a0_, .inl (.double, l0)), (a1, .inl (.double, l1)), (a2, .inl (.double, l2)), (a3, .inl (.int, l3)), (a4, .inl (.double, l4)), (a5, .inl (.double, l5)), (a6, .inl (.double, [(.double e0), (.double e1)]))] (oVoid fun d => d = [(a0_, .inl (.double, l0)), (a1, .inl (.double, l1)), (a2, .inl (.double, l2)), (a3, .inl (.int, l3)), (a4, .inl (.double, l4)), (a5, .inl (.double, l5)), (a6, .inl (.double, [(.double xv), (.double e1)]))]) := by
  refine oCtr.of (Ls := #[.val (.ref a6), .val (.int (0 : Int32)), .val (.int (1 : Int32)), .val (.double xv), .second, .unset]) (plainFor_of_name (by first | (simp [plainName, overriddenIn]; done) | decide +kernel)) (fun m => by first | (simp [entryFrame, mkF, argsToLocals, Value.category]; done) | rfl) ?_
  intro p e s m below meth c K
  refine oW.aloadN (pc' := 1) K d2_0 rfl rfl rfl ?_
  refine oW.alen (i := 6) (v := (2 : Int32)) (pc' := 2) K d2_1 rfl rfl rfl ?_
  refine oW.iloadN (pc' := 3) K d2_2 rfl rfl ?_
  refine oW.iloadN (pc' := 4) K d2_3 rfl rfl ?_
  refine oW.callS0 (argsL := [(.int (2 : Int32)), (.int (0 : Int32)), (.int (1 : Int32))]) (S := []) (rm := ({ frames := 0, cells := 0, slots := 0, locals := 0 } : Room)) (W := 0) (cells' := 0) (slots' := 0) (pc' := 7) K (hw _ (List.mem_of_getElem? (i := 13) rfl)) (hw _ (List.mem_of_getElem? (i := 14) rfl)) (hw _ (List.mem_of_getElem? (i := 11) rfl)) (hw _ (List.mem_of_getElem? (i := 15) rfl)) (by decide) (own_rc hw (by decide) (by decide) (by decide)) (lenOf pd_0 rfl) d2_4 rfl rfl (Nat.le_of_eq rfl) (by decide) (by decide) (by decide) (by decide) rfl rfl rfl ?_
  rintro _ rfl
  refine oW.iloadN (pc' := 8) K d2_7 rfl rfl ?_
  refine oW.istore (Ls' := #[.val (.ref a6), .val (.int (0 : Int32)), .val (.int (1 : Int32)), .val (.double xv), .second, .val (.int (0 : Int32))]) (pc' := 10) K d2_8 rfl rfl ?_
  refine oW.iload (pc' := 12) K d2_10 rfl rfl ?_
  refine oW.iloadN (pc' := 13) K d2_12 rfl rfl ?_
  refine oW.icmp_ge (pc' := 27) (pc3 := 16) K d2_13 (by decide) (by decide) rfl (fun q => absurd q (by decide)) (fun _ => ?_)
  refine oW.aloadN (pc' := 17) K d2_16 rfl rfl rfl ?_
  refine oW.iload (pc' := 19) K d2_17 rfl rfl ?_
  refine oW.dloadN (pc' := 20) K d2_19 rfl rfl ?_
  refine oW.dastore (i := 6) (k := 0) (ds' := [(a0_, .inl (.double, l0)), (a1, .inl (.double, l1)), (a2, .inl (.double, l2)), (a3, .inl (.int, l3)), (a4, .inl (.double, l4)), (a5, .inl (.double, l5)), (a6, .inl (.double, [(.double xv), (.double e1)]))]) (pc' := 21) K d2_20 rfl rfl (by decide) (Nat.lt_of_sub_eq_succ rfl) rfl rfl ?_
  refine oW.iinc (v := (1 : Int32)) (Ls' := #[.val (.ref a6), .val (.int (0 : Int32)), .val (.int (1 : Int32)), .val (.double xv), .second, .val (.int (1 : Int32))]) (pc' := 24) K d2_21 rfl (by decide) rfl rfl ?_
  refine oW.goto (pc' := 10) K d2_24 (by decide) (by decide) ?_
  refine oW.iload (pc' := 12) K d2_10 rfl rfl ?_
  refine oW.iloadN (pc' := 13) K d2_12 rfl rfl ?_
  refine oW.icmp_ge (pc' := 27) (pc3 := 16) K d2_13 (by decide) (by decide) rfl (fun _ => ?_) (fun q => absurd q (by decide))
  exact oW.retV K rfl d2_27 (by decide) (by decide) ⟨rfl, rfl⟩
set_option maxRecDepth 65536 in
set_option maxHeartbeats 40000000 in
theorem own_fill_2_1_2 {l : Launch} {Z : State} {a0 : Array Value} {h0 : Heap} (hw : ∀ d ∈ tables_1, d.before a0 Z = true) {a0_ a1 a2 a3 a4 a5 a6 : Addr} {l0 l1 l2 l3 l4 l5 : List Value} {xv e0 e1 : UInt64} :
    oCtr l Z h0 [] (⟨"java/util/Arrays", "fill", "([DIID)V"⟩ : MethodName) jdk_65_method_114_code 6 none ({ frames := 1, cells := 0, slots := 0, locals := 30 } : Room) #[(.ref a6), (.int (1 : Int32)), (.int (2 : Int32)), (.double xv)] [(a0_, .inl (.double, l0)), (a1, .inl (.double, l1)), (a2, .inl (.double, l2)), (a3, .inl (.int, l3)), (a4, .inl (.double, l4)), (a5, .inl (.double, l5)), (a6, .inl (.double, [(.double e0), (.double e1)]))] (oVoid fun d => d = [(a0_, .inl (.double, l0)), (a1, .inl (.double, l1)), (a2, .inl (.double, l2)), (a3, .inl (.int, l3)), (a4, .inl (.double, l4)), (a5, .inl (.double, l5)), (a6, .inl (.double, [(.double e0), (.double xv)]))]) := by
  refine oCtr.of (Ls := #[.val (.ref a6), .val (.int (1 : Int32)), .val (.int (2 : Int32)), .val (.double xv), .second, .unset]) (plainFor_of_name (by first | (simp [plainName, overriddenIn]; done) | decide +kernel)) (fun m => by first | (simp [entryFrame, mkF, argsToLocals, Value.category]; done) | rfl) ?_
  intro p e s m below meth c K
  refine oW.aloadN (pc' := 1) K d2_0 rfl rfl rfl ?_
  refine oW.alen (i := 6) (v := (2 : Int32)) (pc' := 2) K d2_1 rfl rfl rfl ?_
  refine oW.iloadN (pc' := 3) K d2_2 rfl rfl ?_
  refine oW.iloadN (pc' := 4) K d2_3 rfl rfl ?_
  refine oW.callS0 (argsL := [(.int (2 : Int32)), (.int (1 : Int32)), (.int (2 : Int32))]) (S := []) (rm := ({ frames := 0, cells := 0, slots := 0, locals := 0 } : Room)) (W := 0) (cells' := 0) (slots' := 0) (pc' := 7) K (hw _ (List.mem_of_getElem? (i := 13) rfl)) (hw _ (List.mem_of_getElem? (i := 14) rfl)) (hw _ (List.mem_of_getElem? (i := 11) rfl)) (hw _ (List.mem_of_getElem? (i := 15) rfl)) (by decide) (own_rc hw (by decide) (by decide) (by decide)) (lenOf pd_0 rfl) d2_4 rfl rfl (Nat.le_of_eq rfl) (by decide) (by decide) (by decide) (by decide) rfl rfl rfl ?_
  rintro _ rfl
  refine oW.iloadN (pc' := 8) K d2_7 rfl rfl ?_
  refine oW.istore (Ls' := #[.val (.ref a6), .val (.int (1 : Int32)), .val (.int (2 : Int32)), .val (.double xv), .second, .val (.int (1 : Int32))]) (pc' := 10) K d2_8 rfl rfl ?_
  refine oW.iload (pc' := 12) K d2_10 rfl rfl ?_
  refine oW.iloadN (pc' := 13) K d2_12 rfl rfl ?_
  refine oW.icmp_ge (pc' := 27) (pc3 := 16) K d2_13 (by decide) (by decide) rfl (fun q => absurd q (by decide)) (fun _ => ?_)
  refine oW.aloadN (pc' := 17) K d2_16 rfl rfl rfl ?_
  refine oW.iload (pc' := 19) K d2_17 rfl rfl ?_
  refine oW.dloadN (pc' := 20) K d2_19 rfl rfl ?_
  refine oW.dastore (i := 6) (k := 1) (ds' := [(a0_, .inl (.double, l0)), (a1, .inl (.double, l1)), (a2, .inl (.double, l2)), (a3, .inl (.int, l3)), (a4, .inl (.double, l4)), (a5, .inl (.double, l5)), (a6, .inl (.double, [(.double e0), (.double xv)]))]) (pc' := 21) K d2_20 rfl rfl (by decide) (Nat.lt_of_sub_eq_succ rfl) rfl rfl ?_
  refine oW.iinc (v := (2 : Int32)) (Ls' := #[.val (.ref a6), .val (.int (1 : Int32)), .val (.int (2 : Int32)), .val (.double xv), .second, .val (.int (2 : Int32))]) (pc' := 24) K d2_21 rfl (by decide) rfl rfl ?_
  refine oW.goto (pc' := 10) K d2_24 (by decide) (by decide) ?_
  refine oW.iload (pc' := 12) K d2_10 rfl rfl ?_
  refine oW.iloadN (pc' := 13) K d2_12 rfl rfl ?_
  refine oW.icmp_ge (pc' := 27) (pc3 := 16) K d2_13 (by decide) (by decide) rfl (fun _ => ?_) (fun q => absurd q (by decide))
  exact oW.retV K rfl d2_27 (by decide) (by decide) ⟨rfl, rfl⟩
set_option maxRecDepth 65536 in
set_option maxHeartbeats 40000000 in
theorem own_ir2 {l : Launch} {Z : State} {a0 : Array Value} {h0 : Heap} (hw : ∀ d ∈ tables_1, d.before a0 Z = true) {a b : Addr} {s0 p0 s1 p1 : UInt64} {u0 q0 R0 u1 q1 R1 g1 T0 c0 : Int} (hs0 : oQ u0 0 s0) (hp0 : oQ q0 5 p0) (hq0 : 1 ≤ q0 ∧ q0 ≤ 32) (hu0 : -8589934592 ≤ u0 ∧ u0 ≤ 8589934592) (hb0 : -68719476736 ≤ R0 ∧ R0 ≤ 68719476736) (hs1 : oQ u1 0 s1) (hp1 : oQ q1 5 p1) (hq1 : 1 ≤ q1 ∧ q1 ≤ 32) (hu1 : -8589934592 ≤ u1 ∧ u1 ≤ 8589934592) (hb1 : -68719476736 ≤ R1 ∧ R1 ≤ 68719476736) (hsum : q0 + q1 ≤ 32) (hg0 : u1 - u0 = g1) (hT0 : T0 = q1) (hc0 : q0 * c0 = 8) (hP0 : 0 ≤ g1 * T0 ∧ g1 * T0 ≤ 33554432) (hPc0 : 0 ≤ g1 * T0 * c0 ∧ g1 * T0 * c0 ≤ 268435456) (hR0 : u0 * 8 - g1 * T0 * c0 = R0) (hm0 : R0 ≤ R1) (hR1 : u1 * 8 = R1) :
    oCtr l Z h0 [] (⟨"com/example/arrivage/arrivage/mechanism/VirtualValues", "ironed", "([D[D)[D"⟩ : MethodName) prog_19_method_2_code 15 (some (.array .double)) ({ frames := 2, cells := 5, slots := 20, locals := 60 } : Room) #[(.ref a), (.ref b)] [(a, .inl (.double, [(.double s0), (.double s1)])), (b, .inl (.double, [(.double p0), (.double p1)]))] (oVal fun w d => ∃ (a2 a3 a4 a5 a6 : Addr) (l2 l3 l4 l5 : List Value) (v0 v1 : UInt64), w = .ref a6 ∧ d = [(a, .inl (.double, [(.double s0), (.double s1)])), (b, .inl (.double, [(.double p0), (.double p1)])), (a2, .inl (.double, l2)), (a3, .inl (.int, l3)), (a4, .inl (.double, l4)), (a5, .inl (.double, l5)), (a6, .inl (.double, [(.double v0), (.double v1)]))] ∧ oQ R0 3 v0 ∧ oQ R1 3 v1) := by
  refine oCtr.of (Ls := #[.val (.ref a), .val (.ref b), .unset, .unset, .unset, .unset, .unset, .unset, .unset, .unset, .unset, .unset, .unset, .unset, .unset]) (plainFor_of_name (by first | (simp [plainName, overriddenIn]; done) | decide +kernel)) (fun m => by first | (simp [entryFrame, mkF, argsToLocals, Value.category]; done) | rfl) ?_
  intro p e s m below meth c K
  have hN0 := oMBr (q := q0) (R := R0) (by omega) hb0
  have hN1 := oMBr (q := q1) (R := R1) (by omega) hb1
  refine oW.aloadN (pc' := 1) K d1_0 rfl rfl rfl ?_
  refine oW.alen (i := 0) (v := (2 : Int32)) (pc' := 2) K d1_1 rfl rfl rfl ?_
  refine oW.istoreN (Ls' := #[.val (.ref a), .val (.ref b), .val (.int (2 : Int32)), .unset, .unset, .unset, .unset, .unset, .unset, .unset, .unset, .unset, .unset, .unset, .unset]) (pc' := 3) K d1_2 rfl rfl ?_
  refine oW.iloadN (pc' := 4) K d1_3 rfl rfl ?_
  refine oW.newarr (n := 2) (cells' := 1) (slots' := 2) (dsf := fun z => [(a, .inl (.double, [(.double s0), (.double s1)])), (b, .inl (.double, [(.double p0), (.double p1)])), (z, .inl (.double, [(.double (0 : UInt64)), (.double (0 : UInt64))]))]) (pc' := 6) K (hw _ (List.mem_of_getElem? (i := 2) rfl)) d1_4 rfl (by decide) (by decide) (by decide) (by decide) rfl rfl (fun _ => rfl) rfl ?_
  intro a4 ha4
  refine oW.astoreN (Ls' := #[.val (.ref a), .val (.ref b), .val (.int (2 : Int32)), .val (.ref a4), .unset, .unset, .unset, .unset, .unset, .unset, .unset, .unset, .unset, .unset, .unset]) (pc' := 7) K d1_6 rfl rfl rfl ?_
  refine oW.dconst0 (pc' := 8) K d1_7 rfl ?_
  refine oW.dstore (Ls' := #[.val (.ref a), .val (.ref b), .val (.int (2 : Int32)), .val (.ref a4), .val (.double (0 : UInt64)), .second, .unset, .unset, .unset, .unset, .unset, .unset, .unset, .unset, .unset]) (pc' := 10) K d1_8 rfl rfl ?_
  refine oW.iloadN (pc' := 11) K d1_10 rfl rfl ?_
  refine oW.iconst (v := (1 : Int32)) (pc' := 12) K d1_11 (by decide) rfl ?_
  refine oW.isub (v := (1 : Int32)) (pc' := 13) K d1_12 (by decide) rfl ?_
  refine oW.istore (Ls' := #[.val (.ref a), .val (.ref b), .val (.int (2 : Int32)), .val (.ref a4), .val (.double (0 : UInt64)), .second, .val (.int (1 : Int32)), .unset, .unset, .unset, .unset, .unset, .unset, .unset, .unset]) (pc' := 15) K d1_13 rfl rfl ?_
  refine oW.iload (pc' := 17) K d1_15 rfl rfl ?_
  refine oW.if_lt (pc' := 78) (pc3 := 20) K d1_17 (by decide) (by decide) rfl (fun q => absurd q (by decide)) (fun _ => ?_)
  refine oW.aloadN (pc' := 21) K d1_20 rfl rfl rfl ?_
  refine oW.iload (pc' := 23) K d1_21 rfl rfl ?_
  refine oW.iload (pc' := 25) K d1_23 rfl rfl ?_
  refine oW.iloadN (pc' := 26) K d1_25 rfl rfl ?_
  refine oW.iconst (v := (1 : Int32)) (pc' := 27) K d1_26 (by decide) rfl ?_
  refine oW.isub (v := (1 : Int32)) (pc' := 28) K d1_27 (by decide) rfl ?_
  refine oW.icmp_ne (pc' := 38) (pc3 := 31) K d1_28 (by decide) (by decide) rfl (fun q => absurd q (by decide)) (fun _ => ?_)
  refine oW.aloadN (pc' := 32) K d1_31 rfl rfl rfl ?_
  refine oW.iload (pc' := 34) K d1_32 rfl rfl ?_
  refine oW.daload (i := 0) (k := 1) (pc' := 35) K d1_34 rfl rfl (by decide) rfl rfl ?_
  refine oW.goto (pc' := 62) K d1_35 (by decide) (by decide) ?_
  refine oW.dastore (i := 2) (k := 1) (ds' := [(a, .inl (.double, [(.double s0), (.double s1)])), (b, .inl (.double, [(.double p0), (.double p1)])), (a4, .inl (.double, [(.double (0 : UInt64)), (.double s1)]))]) (pc' := 63) K d1_62 rfl rfl (by decide) (Nat.lt_of_sub_eq_succ rfl) rfl rfl ?_
  refine oW.dload (pc' := 65) K d1_63 rfl rfl ?_
  refine oW.aloadN (pc' := 66) K d1_65 rfl rfl rfl ?_
  refine oW.iload (pc' := 68) K d1_66 rfl rfl ?_
  refine oW.daload (i := 1) (k := 1) (pc' := 69) K d1_68 rfl rfl (by decide) rfl rfl ?_
  obtain ⟨v69, ev69⟩ : ∃ t_ : UInt64, t_ = FP.dadd (0 : UInt64) p1 := ⟨_, rfl⟩
  have qv69 : oQ (T0) 5 v69 := ((oQ0 5).add hp1 ev69 (by decide) (by omega)).cast rfl (by omega)
  refine oW.dadd (pc' := 70) K d1_69 ev69 (qv69.nn) rfl ?_
  refine oW.dstore (Ls' := #[.val (.ref a), .val (.ref b), .val (.int (2 : Int32)), .val (.ref a4), .val (.double v69), .second, .val (.int (1 : Int32)), .unset, .unset, .unset, .unset, .unset, .unset, .unset, .unset]) (pc' := 72) K d1_70 rfl rfl ?_
  refine oW.iinc (v := (0 : Int32)) (Ls' := #[.val (.ref a), .val (.ref b), .val (.int (2 : Int32)), .val (.ref a4), .val (.double v69), .second, .val (.int (0 : Int32)), .unset, .unset, .unset, .unset, .unset, .unset, .unset, .unset]) (pc' := 75) K d1_72 rfl (by decide) rfl rfl ?_
  refine oW.goto (pc' := 15) K d1_75 (by decide) (by decide) ?_
  refine oW.iload (pc' := 17) K d1_15 rfl rfl ?_
  refine oW.if_lt (pc' := 78) (pc3 := 20) K d1_17 (by decide) (by decide) rfl (fun q => absurd q (by decide)) (fun _ => ?_)
  refine oW.aloadN (pc' := 21) K d1_20 rfl rfl rfl ?_
  refine oW.iload (pc' := 23) K d1_21 rfl rfl ?_
  refine oW.iload (pc' := 25) K d1_23 rfl rfl ?_
  refine oW.iloadN (pc' := 26) K d1_25 rfl rfl ?_
  refine oW.iconst (v := (1 : Int32)) (pc' := 27) K d1_26 (by decide) rfl ?_
  refine oW.isub (v := (1 : Int32)) (pc' := 28) K d1_27 (by decide) rfl ?_
  refine oW.icmp_ne (pc' := 38) (pc3 := 31) K d1_28 (by decide) (by decide) rfl (fun _ => ?_) (fun q => absurd q (by decide))
  refine oW.aloadN (pc' := 39) K d1_38 rfl rfl rfl ?_
  refine oW.iload (pc' := 41) K d1_39 rfl rfl ?_
  refine oW.daload (i := 0) (k := 0) (pc' := 42) K d1_41 rfl rfl (by decide) rfl rfl ?_
  refine oW.aloadN (pc' := 43) K d1_42 rfl rfl rfl ?_
  refine oW.iload (pc' := 45) K d1_43 rfl rfl ?_
  refine oW.iconst (v := (1 : Int32)) (pc' := 46) K d1_45 (by decide) rfl ?_
  refine oW.iadd (v := (1 : Int32)) (pc' := 47) K d1_46 (by decide) rfl ?_
  refine oW.daload (i := 0) (k := 1) (pc' := 48) K d1_47 rfl rfl (by decide) rfl rfl ?_
  refine oW.aloadN (pc' := 49) K d1_48 rfl rfl rfl ?_
  refine oW.iload (pc' := 51) K d1_49 rfl rfl ?_
  refine oW.daload (i := 0) (k := 0) (pc' := 52) K d1_51 rfl rfl (by decide) rfl rfl ?_
  obtain ⟨v52, ev52⟩ : ∃ t_ : UInt64, t_ = FP.dsub s1 s0 := ⟨_, rfl⟩
  have qv52 : oQ (g1) 0 v52 := (hs1.sub hs0 ev52 (by decide) (by omega)).cast rfl hg0
  refine oW.dsub (pc' := 53) K d1_52 ev52 (qv52.nn) rfl ?_
  refine oW.dload (pc' := 55) K d1_53 rfl rfl ?_
  obtain ⟨v55, ev55⟩ : ∃ t_ : UInt64, t_ = FP.dmul v52 v69 := ⟨_, rfl⟩
  have qv55 : oQ (g1 * T0) 5 v55 := (qv52.mul qv69 ev55 (by decide) (by omega)).cast rfl rfl
  refine oW.dmul (pc' := 56) K d1_55 ev55 (qv55.nn) rfl ?_
  refine oW.aloadN (pc' := 57) K d1_56 rfl rfl rfl ?_
  refine oW.iload (pc' := 59) K d1_57 rfl rfl ?_
  refine oW.daload (i := 1) (k := 0) (pc' := 60) K d1_59 rfl rfl (by decide) rfl rfl ?_
  obtain ⟨v60, ev60⟩ : ∃ t_ : UInt64, t_ = FP.ddiv v55 p0 := ⟨_, rfl⟩
  have qv60 : oQ (g1 * T0 * c0) 3 v60 := qv55.divx hp0 ev60 _ 3 (by omega) (by decide) (by decide) (by decide) (by omega) (oDc hc0)
  refine oW.ddiv (pc' := 61) K d1_60 ev60 (qv60.nn) rfl ?_
  obtain ⟨v61, ev61⟩ : ∃ t_ : UInt64, t_ = FP.dsub s0 v60 := ⟨_, rfl⟩
  have qv61 : oQ (R0) 3 v61 := ((hs0.up 3 rfl (by decide) rfl).sub qv60 ev61 (by decide) (by rw [show ((2 ^ 3 : Nat) : Int) = 8 by rfl]; omega)).cast rfl hR0
  refine oW.dsub (pc' := 62) K d1_61 ev61 (qv61.nn) rfl ?_
  refine oW.dastore (i := 2) (k := 0) (ds' := [(a, .inl (.double, [(.double s0), (.double s1)])), (b, .inl (.double, [(.double p0), (.double p1)])), (a4, .inl (.double, [(.double v61), (.double s1)]))]) (pc' := 63) K d1_62 rfl rfl (by decide) (Nat.lt_of_sub_eq_succ rfl) rfl rfl ?_
  refine oW.dload (pc' := 65) K d1_63 rfl rfl ?_
  refine oW.aloadN (pc' := 66) K d1_65 rfl rfl rfl ?_
  refine oW.iload (pc' := 68) K d1_66 rfl rfl ?_
  refine oW.daload (i := 1) (k := 0) (pc' := 69) K d1_68 rfl rfl (by decide) rfl rfl ?_
  obtain ⟨v69_1, ev69_1⟩ : ∃ t_ : UInt64, t_ = FP.dadd v69 p0 := ⟨_, rfl⟩
  have qv69_1 : oQ (T0 + q0) 5 v69_1 := (qv69.add hp0 ev69_1 (by decide) (by omega)).cast rfl (by omega)
  refine oW.dadd (pc' := 70) K d1_69 ev69_1 (qv69_1.nn) rfl ?_
  refine oW.dstore (Ls' := #[.val (.ref a), .val (.ref b), .val (.int (2 : Int32)), .val (.ref a4), .val (.double v69_1), .second, .val (.int (0 : Int32)), .unset, .unset, .unset, .unset, .unset, .unset, .unset, .unset]) (pc' := 72) K d1_70 rfl rfl ?_
  refine oW.iinc (v := (-1 : Int32)) (Ls' := #[.val (.ref a), .val (.ref b), .val (.int (2 : Int32)), .val (.ref a4), .val (.double v69_1), .second, .val (.int (-1 : Int32)), .unset, .unset, .unset, .unset, .unset, .unset, .unset, .unset]) (pc' := 75) K d1_72 rfl (by decide) rfl rfl ?_
  refine oW.goto (pc' := 15) K d1_75 (by decide) (by decide) ?_
  refine oW.iload (pc' := 17) K d1_15 rfl rfl ?_
  refine oW.if_lt (pc' := 78) (pc3 := 20) K d1_17 (by decide) (by decide) rfl (fun _ => ?_) (fun q => absurd q (by decide))
  refine oW.iloadN (pc' := 79) K d1_78 rfl rfl ?_
  refine oW.newarr (n := 2) (cells' := 2) (slots' := 4) (dsf := fun z => [(a, .inl (.double, [(.double s0), (.double s1)])), (b, .inl (.double, [(.double p0), (.double p1)])), (a4, .inl (.double, [(.double v61), (.double s1)])), (z, .inl (.int, [(.int (0 : Int32)), (.int (0 : Int32))]))]) (pc' := 81) K (hw _ (List.mem_of_getElem? (i := 8) rfl)) d1_79 rfl (by decide) (by decide) (by decide) (by decide) rfl rfl (fun _ => rfl) rfl ?_
  intro a79 ha79
  refine oW.astore (Ls' := #[.val (.ref a), .val (.ref b), .val (.int (2 : Int32)), .val (.ref a4), .val (.double v69_1), .second, .val (.ref a79), .unset, .unset, .unset, .unset, .unset, .unset, .unset, .unset]) (pc' := 83) K d1_81 rfl rfl rfl ?_
  refine oW.iloadN (pc' := 84) K d1_83 rfl rfl ?_
  refine oW.newarr (n := 2) (cells' := 3) (slots' := 6) (dsf := fun z => [(a, .inl (.double, [(.double s0), (.double s1)])), (b, .inl (.double, [(.double p0), (.double p1)])), (a4, .inl (.double, [(.double v61), (.double s1)])), (a79, .inl (.int, [(.int (0 : Int32)), (.int (0 : Int32))])), (z, .inl (.double, [(.double (0 : UInt64)), (.double (0 : UInt64))]))]) (pc' := 86) K (hw _ (List.mem_of_getElem? (i := 2) rfl)) d1_84 rfl (by decide) (by decide) (by decide) (by decide) rfl rfl (fun _ => rfl) rfl ?_
  intro a84 ha84
  refine oW.astore (Ls' := #[.val (.ref a), .val (.ref b), .val (.int (2 : Int32)), .val (.ref a4), .val (.double v69_1), .second, .val (.ref a79), .val (.ref a84), .unset, .unset, .unset, .unset, .unset, .unset, .unset]) (pc' := 88) K d1_86 rfl rfl rfl ?_
  refine oW.iloadN (pc' := 89) K d1_88 rfl rfl ?_
  refine oW.newarr (n := 2) (cells' := 4) (slots' := 8) (dsf := fun z => [(a, .inl (.double, [(.double s0), (.double s1)])), (b, .inl (.double, [(.double p0), (.double p1)])), (a4, .inl (.double, [(.double v61), (.double s1)])), (a79, .inl (.int, [(.int (0 : Int32)), (.int (0 : Int32))])), (a84, .inl (.double, [(.double (0 : UInt64)), (.double (0 : UInt64))])), (z, .inl (.double, [(.double (0 : UInt64)), (.double (0 : UInt64))]))]) (pc' := 91) K (hw _ (List.mem_of_getElem? (i := 2) rfl)) d1_89 rfl (by decide) (by decide) (by decide) (by decide) rfl rfl (fun _ => rfl) rfl ?_
  intro a89 ha89
  refine oW.astore (Ls' := #[.val (.ref a), .val (.ref b), .val (.int (2 : Int32)), .val (.ref a4), .val (.double v69_1), .second, .val (.ref a79), .val (.ref a84), .val (.ref a89), .unset, .unset, .unset, .unset, .unset, .unset]) (pc' := 93) K d1_91 rfl rfl rfl ?_
  refine oW.iconst (v := (0 : Int32)) (pc' := 94) K d1_93 (by decide) rfl ?_
  refine oW.istore (Ls' := #[.val (.ref a), .val (.ref b), .val (.int (2 : Int32)), .val (.ref a4), .val (.double v69_1), .second, .val (.ref a79), .val (.ref a84), .val (.ref a89), .val (.int (0 : Int32)), .unset, .unset, .unset, .unset, .unset]) (pc' := 96) K d1_94 rfl rfl ?_
  refine oW.iconst (v := (0 : Int32)) (pc' := 97) K d1_96 (by decide) rfl ?_
  refine oW.istore (Ls' := #[.val (.ref a), .val (.ref b), .val (.int (2 : Int32)), .val (.ref a4), .val (.double v69_1), .second, .val (.ref a79), .val (.ref a84), .val (.ref a89), .val (.int (0 : Int32)), .val (.int (0 : Int32)), .unset, .unset, .unset, .unset]) (pc' := 99) K d1_97 rfl rfl ?_
  refine oW.iload (pc' := 101) K d1_99 rfl rfl ?_
  refine oW.iloadN (pc' := 102) K d1_101 rfl rfl ?_
  refine oW.icmp_ge (pc' := 224) (pc3 := 105) K d1_102 (by decide) (by decide) rfl (fun q => absurd q (by decide)) (fun _ => ?_)
  refine oW.aload (pc' := 107) K d1_105 rfl rfl rfl ?_
  refine oW.iload (pc' := 109) K d1_107 rfl rfl ?_
  refine oW.iload (pc' := 111) K d1_109 rfl rfl ?_
  refine oW.iastore (i := 3) (k := 0) (ds' := [(a, .inl (.double, [(.double s0), (.double s1)])), (b, .inl (.double, [(.double p0), (.double p1)])), (a4, .inl (.double, [(.double v61), (.double s1)])), (a79, .inl (.int, [(.int (0 : Int32)), (.int (0 : Int32))])), (a84, .inl (.double, [(.double (0 : UInt64)), (.double (0 : UInt64))])), (a89, .inl (.double, [(.double (0 : UInt64)), (.double (0 : UInt64))]))]) (pc' := 112) K d1_111 rfl rfl (by decide) (Nat.lt_of_sub_eq_succ rfl) rfl rfl ?_
  refine oW.aload (pc' := 114) K d1_112 rfl rfl rfl ?_
  refine oW.iload (pc' := 116) K d1_114 rfl rfl ?_
  refine oW.aloadN (pc' := 117) K d1_116 rfl rfl rfl ?_
  refine oW.iload (pc' := 119) K d1_117 rfl rfl ?_
  refine oW.daload (i := 1) (k := 0) (pc' := 120) K d1_119 rfl rfl (by decide) rfl rfl ?_
  refine oW.dastore (i := 4) (k := 0) (ds' := [(a, .inl (.double, [(.double s0), (.double s1)])), (b, .inl (.double, [(.double p0), (.double p1)])), (a4, .inl (.double, [(.double v61), (.double s1)])), (a79, .inl (.int, [(.int (0 : Int32)), (.int (0 : Int32))])), (a84, .inl (.double, [(.double p0), (.double (0 : UInt64))])), (a89, .inl (.double, [(.double (0 : UInt64)), (.double (0 : UInt64))]))]) (pc' := 121) K d1_120 rfl rfl (by decide) (Nat.lt_of_sub_eq_succ rfl) rfl rfl ?_
  refine oW.aload (pc' := 123) K d1_121 rfl rfl rfl ?_
  refine oW.iload (pc' := 125) K d1_123 rfl rfl ?_
  refine oW.aloadN (pc' := 126) K d1_125 rfl rfl rfl ?_
  refine oW.iload (pc' := 128) K d1_126 rfl rfl ?_
  refine oW.daload (i := 1) (k := 0) (pc' := 129) K d1_128 rfl rfl (by decide) rfl rfl ?_
  refine oW.aloadN (pc' := 130) K d1_129 rfl rfl rfl ?_
  refine oW.iload (pc' := 132) K d1_130 rfl rfl ?_
  refine oW.daload (i := 2) (k := 0) (pc' := 133) K d1_132 rfl rfl (by decide) rfl rfl ?_
  obtain ⟨v133, ev133⟩ : ∃ t_ : UInt64, t_ = FP.dmul p0 v61 := ⟨_, rfl⟩
  have qv133 : oQ (q0 * R0) 8 v133 := (hp0.mul qv61 ev133 (by decide) (by omega)).cast rfl rfl
  refine oW.dmul (pc' := 134) K d1_133 ev133 (qv133.nn) rfl ?_
  refine oW.dastore (i := 5) (k := 0) (ds' := [(a, .inl (.double, [(.double s0), (.double s1)])), (b, .inl (.double, [(.double p0), (.double p1)])), (a4, .inl (.double, [(.double v61), (.double s1)])), (a79, .inl (.int, [(.int (0 : Int32)), (.int (0 : Int32))])), (a84, .inl (.double, [(.double p0), (.double (0 : UInt64))])), (a89, .inl (.double, [(.double v133), (.double (0 : UInt64))]))]) (pc' := 135) K d1_134 rfl rfl (by decide) (Nat.lt_of_sub_eq_succ rfl) rfl rfl ?_
  refine oW.iinc (v := (1 : Int32)) (Ls' := #[.val (.ref a), .val (.ref b), .val (.int (2 : Int32)), .val (.ref a4), .val (.double v69_1), .second, .val (.ref a79), .val (.ref a84), .val (.ref a89), .val (.int (1 : Int32)), .val (.int (0 : Int32)), .unset, .unset, .unset, .unset]) (pc' := 138) K d1_135 rfl (by decide) rfl rfl ?_
  refine oW.iload (pc' := 140) K d1_138 rfl rfl ?_
  refine oW.iconst (v := (1 : Int32)) (pc' := 141) K d1_140 (by decide) rfl ?_
  refine oW.icmp_le (pc' := 218) (pc3 := 144) K d1_141 (by decide) (by decide) rfl (fun _ => ?_) (fun q => absurd q (by decide))
  refine oW.iinc (v := (1 : Int32)) (Ls' := #[.val (.ref a), .val (.ref b), .val (.int (2 : Int32)), .val (.ref a4), .val (.double v69_1), .second, .val (.ref a79), .val (.ref a84), .val (.ref a89), .val (.int (1 : Int32)), .val (.int (1 : Int32)), .unset, .unset, .unset, .unset]) (pc' := 221) K d1_218 rfl (by decide) rfl rfl ?_
  refine oW.goto (pc' := 99) K d1_221 (by decide) (by decide) ?_
  refine oW.iload (pc' := 101) K d1_99 rfl rfl ?_
  refine oW.iloadN (pc' := 102) K d1_101 rfl rfl ?_
  refine oW.icmp_ge (pc' := 224) (pc3 := 105) K d1_102 (by decide) (by decide) rfl (fun q => absurd q (by decide)) (fun _ => ?_)
  refine oW.aload (pc' := 107) K d1_105 rfl rfl rfl ?_
  refine oW.iload (pc' := 109) K d1_107 rfl rfl ?_
  refine oW.iload (pc' := 111) K d1_109 rfl rfl ?_
  refine oW.iastore (i := 3) (k := 1) (ds' := [(a, .inl (.double, [(.double s0), (.double s1)])), (b, .inl (.double, [(.double p0), (.double p1)])), (a4, .inl (.double, [(.double v61), (.double s1)])), (a79, .inl (.int, [(.int (0 : Int32)), (.int (1 : Int32))])), (a84, .inl (.double, [(.double p0), (.double (0 : UInt64))])), (a89, .inl (.double, [(.double v133), (.double (0 : UInt64))]))]) (pc' := 112) K d1_111 rfl rfl (by decide) (Nat.lt_of_sub_eq_succ rfl) rfl rfl ?_
  refine oW.aload (pc' := 114) K d1_112 rfl rfl rfl ?_
  refine oW.iload (pc' := 116) K d1_114 rfl rfl ?_
  refine oW.aloadN (pc' := 117) K d1_116 rfl rfl rfl ?_
  refine oW.iload (pc' := 119) K d1_117 rfl rfl ?_
  refine oW.daload (i := 1) (k := 1) (pc' := 120) K d1_119 rfl rfl (by decide) rfl rfl ?_
  refine oW.dastore (i := 4) (k := 1) (ds' := [(a, .inl (.double, [(.double s0), (.double s1)])), (b, .inl (.double, [(.double p0), (.double p1)])), (a4, .inl (.double, [(.double v61), (.double s1)])), (a79, .inl (.int, [(.int (0 : Int32)), (.int (1 : Int32))])), (a84, .inl (.double, [(.double p0), (.double p1)])), (a89, .inl (.double, [(.double v133), (.double (0 : UInt64))]))]) (pc' := 121) K d1_120 rfl rfl (by decide) (Nat.lt_of_sub_eq_succ rfl) rfl rfl ?_
  refine oW.aload (pc' := 123) K d1_121 rfl rfl rfl ?_
  refine oW.iload (pc' := 125) K d1_123 rfl rfl ?_
  refine oW.aloadN (pc' := 126) K d1_125 rfl rfl rfl ?_
  refine oW.iload (pc' := 128) K d1_126 rfl rfl ?_
  refine oW.daload (i := 1) (k := 1) (pc' := 129) K d1_128 rfl rfl (by decide) rfl rfl ?_
  refine oW.aloadN (pc' := 130) K d1_129 rfl rfl rfl ?_
  refine oW.iload (pc' := 132) K d1_130 rfl rfl ?_
  refine oW.daload (i := 2) (k := 1) (pc' := 133) K d1_132 rfl rfl (by decide) rfl rfl ?_
  obtain ⟨v133_1, ev133_1⟩ : ∃ t_ : UInt64, t_ = FP.dmul p1 s1 := ⟨_, rfl⟩
  have qv133_1 : oQ (q1 * R1) 8 v133_1 := (hp1.mul (hs1.up 3 rfl (by decide) hR1) ev133_1 (by decide) (by omega)).cast rfl rfl
  refine oW.dmul (pc' := 134) K d1_133 ev133_1 (qv133_1.nn) rfl ?_
  refine oW.dastore (i := 5) (k := 1) (ds' := [(a, .inl (.double, [(.double s0), (.double s1)])), (b, .inl (.double, [(.double p0), (.double p1)])), (a4, .inl (.double, [(.double v61), (.double s1)])), (a79, .inl (.int, [(.int (0 : Int32)), (.int (1 : Int32))])), (a84, .inl (.double, [(.double p0), (.double p1)])), (a89, .inl (.double, [(.double v133), (.double v133_1)]))]) (pc' := 135) K d1_134 rfl rfl (by decide) (Nat.lt_of_sub_eq_succ rfl) rfl rfl ?_
  refine oW.iinc (v := (2 : Int32)) (Ls' := #[.val (.ref a), .val (.ref b), .val (.int (2 : Int32)), .val (.ref a4), .val (.double v69_1), .second, .val (.ref a79), .val (.ref a84), .val (.ref a89), .val (.int (2 : Int32)), .val (.int (1 : Int32)), .unset, .unset, .unset, .unset]) (pc' := 138) K d1_135 rfl (by decide) rfl rfl ?_
  refine oW.iload (pc' := 140) K d1_138 rfl rfl ?_
  refine oW.iconst (v := (1 : Int32)) (pc' := 141) K d1_140 (by decide) rfl ?_
  refine oW.icmp_le (pc' := 218) (pc3 := 144) K d1_141 (by decide) (by decide) rfl (fun q => absurd q (by decide)) (fun _ => ?_)
  refine oW.aload (pc' := 146) K d1_144 rfl rfl rfl ?_
  refine oW.iload (pc' := 148) K d1_146 rfl rfl ?_
  refine oW.iconst (v := (2 : Int32)) (pc' := 149) K d1_148 (by decide) rfl ?_
  refine oW.isub (v := (0 : Int32)) (pc' := 150) K d1_149 (by decide) rfl ?_
  refine oW.daload (i := 5) (k := 0) (pc' := 151) K d1_150 rfl rfl (by decide) rfl rfl ?_
  refine oW.aload (pc' := 153) K d1_151 rfl rfl rfl ?_
  refine oW.iload (pc' := 155) K d1_153 rfl rfl ?_
  refine oW.iconst (v := (2 : Int32)) (pc' := 156) K d1_155 (by decide) rfl ?_
  refine oW.isub (v := (0 : Int32)) (pc' := 157) K d1_156 (by decide) rfl ?_
  refine oW.daload (i := 4) (k := 0) (pc' := 158) K d1_157 rfl rfl (by decide) rfl rfl ?_
  obtain ⟨v158, ev158⟩ : ∃ t_ : UInt64, t_ = FP.ddiv v133 p0 := ⟨_, rfl⟩
  have qv158 : oQ (R0) 3 v158 := qv133.divx hp0 ev158 _ 3 (by omega) (by decide) (by decide) (by decide) (by omega) oD83
  refine oW.ddiv (pc' := 159) K d1_158 ev158 (qv158.nn) rfl ?_
  refine oW.aload (pc' := 161) K d1_159 rfl rfl rfl ?_
  refine oW.iload (pc' := 163) K d1_161 rfl rfl ?_
  refine oW.iconst (v := (1 : Int32)) (pc' := 164) K d1_163 (by decide) rfl ?_
  refine oW.isub (v := (1 : Int32)) (pc' := 165) K d1_164 (by decide) rfl ?_
  refine oW.daload (i := 5) (k := 1) (pc' := 166) K d1_165 rfl rfl (by decide) rfl rfl ?_
  refine oW.aload (pc' := 168) K d1_166 rfl rfl rfl ?_
  refine oW.iload (pc' := 170) K d1_168 rfl rfl ?_
  refine oW.iconst (v := (1 : Int32)) (pc' := 171) K d1_170 (by decide) rfl ?_
  refine oW.isub (v := (1 : Int32)) (pc' := 172) K d1_171 (by decide) rfl ?_
  refine oW.daload (i := 4) (k := 1) (pc' := 173) K d1_172 rfl rfl (by decide) rfl rfl ?_
  obtain ⟨v173, ev173⟩ : ∃ t_ : UInt64, t_ = FP.ddiv v133_1 p1 := ⟨_, rfl⟩
  have qv173 : oQ (R1) 3 v173 := qv133_1.divx hp1 ev173 _ 3 (by omega) (by decide) (by decide) (by decide) (by omega) oD83
  refine oW.ddiv (pc' := 174) K d1_173 ev173 (qv173.nn) rfl ?_
  obtain ⟨v174, ev174⟩ : ∃ t_ : Int32, t_ = cmpValue (FP.dcmp v158 v173) .l := ⟨_, rfl⟩
  refine oW.dcmp (pc' := 175) K d1_174 ev174 rfl ?_
  refine oW.if_le (pc' := 218) (pc3 := 178) K d1_175 (by decide) (by decide) rfl (fun c175 => ?_) (fun q => absurd ((qv158.cmp qv173 ev174).2.2.mp q) (by omega))
  refine oW.iinc (v := (2 : Int32)) (Ls' := #[.val (.ref a), .val (.ref b), .val (.int (2 : Int32)), .val (.ref a4), .val (.double v69_1), .second, .val (.ref a79), .val (.ref a84), .val (.ref a89), .val (.int (2 : Int32)), .val (.int (2 : Int32)), .unset, .unset, .unset, .unset]) (pc' := 221) K d1_218 rfl (by decide) rfl rfl ?_
  refine oW.goto (pc' := 99) K d1_221 (by decide) (by decide) ?_
  refine oW.iload (pc' := 101) K d1_99 rfl rfl ?_
  refine oW.iloadN (pc' := 102) K d1_101 rfl rfl ?_
  refine oW.icmp_ge (pc' := 224) (pc3 := 105) K d1_102 (by decide) (by decide) rfl (fun _ => ?_) (fun q => absurd q (by decide))
  refine oW.iloadN (pc' := 225) K d1_224 rfl rfl ?_
  refine oW.newarr (n := 2) (cells' := 5) (slots' := 10) (dsf := fun z => [(a, .inl (.double, [(.double s0), (.double s1)])), (b, .inl (.double, [(.double p0), (.double p1)])), (a4, .inl (.double, [(.double v61), (.double s1)])), (a79, .inl (.int, [(.int (0 : Int32)), (.int (1 : Int32))])), (a84, .inl (.double, [(.double p0), (.double p1)])), (a89, .inl (.double, [(.double v133), (.double v133_1)])), (z, .inl (.double, [(.double (0 : UInt64)), (.double (0 : UInt64))]))]) (pc' := 227) K (hw _ (List.mem_of_getElem? (i := 2) rfl)) d1_225 rfl (by decide) (by decide) (by decide) (by decide) rfl rfl (fun _ => rfl) rfl ?_
  intro a225 ha225
  refine oW.astore (Ls' := #[.val (.ref a), .val (.ref b), .val (.int (2 : Int32)), .val (.ref a4), .val (.double v69_1), .second, .val (.ref a79), .val (.ref a84), .val (.ref a89), .val (.int (2 : Int32)), .val (.ref a225), .unset, .unset, .unset, .unset]) (pc' := 229) K d1_227 rfl rfl rfl ?_
  refine oW.iconst (v := (0 : Int32)) (pc' := 230) K d1_229 (by decide) rfl ?_
  refine oW.istore (Ls' := #[.val (.ref a), .val (.ref b), .val (.int (2 : Int32)), .val (.ref a4), .val (.double v69_1), .second, .val (.ref a79), .val (.ref a84), .val (.ref a89), .val (.int (2 : Int32)), .val (.ref a225), .val (.int (0 : Int32)), .unset, .unset, .unset]) (pc' := 232) K d1_230 rfl rfl ?_
  refine oW.iload (pc' := 234) K d1_232 rfl rfl ?_
  refine oW.iload (pc' := 236) K d1_234 rfl rfl ?_
  refine oW.icmp_ge (pc' := 316) (pc3 := 239) K d1_236 (by decide) (by decide) rfl (fun q => absurd q (by decide)) (fun _ => ?_)
  refine oW.iload (pc' := 241) K d1_239 rfl rfl ?_
  refine oW.iconst (v := (1 : Int32)) (pc' := 242) K d1_241 (by decide) rfl ?_
  refine oW.iadd (v := (1 : Int32)) (pc' := 243) K d1_242 (by decide) rfl ?_
  refine oW.iload (pc' := 245) K d1_243 rfl rfl ?_
  refine oW.icmp_ge (pc' := 258) (pc3 := 248) K d1_245 (by decide) (by decide) rfl (fun q => absurd q (by decide)) (fun _ => ?_)
  refine oW.aload (pc' := 250) K d1_248 rfl rfl rfl ?_
  refine oW.iload (pc' := 252) K d1_250 rfl rfl ?_
  refine oW.iconst (v := (1 : Int32)) (pc' := 253) K d1_252 (by decide) rfl ?_
  refine oW.iadd (v := (1 : Int32)) (pc' := 254) K d1_253 (by decide) rfl ?_
  refine oW.iaload (i := 3) (k := 1) (pc' := 255) K d1_254 rfl rfl (by decide) rfl rfl ?_
  refine oW.goto (pc' := 259) K d1_255 (by decide) (by decide) ?_
  refine oW.istore (Ls' := #[.val (.ref a), .val (.ref b), .val (.int (2 : Int32)), .val (.ref a4), .val (.double v69_1), .second, .val (.ref a79), .val (.ref a84), .val (.ref a89), .val (.int (2 : Int32)), .val (.ref a225), .val (.int (0 : Int32)), .val (.int (1 : Int32)), .unset, .unset]) (pc' := 261) K d1_259 rfl rfl ?_
  refine oW.iload (pc' := 263) K d1_261 rfl rfl ?_
  refine oW.aload (pc' := 265) K d1_263 rfl rfl rfl ?_
  refine oW.iload (pc' := 267) K d1_265 rfl rfl ?_
  refine oW.iaload (i := 3) (k := 0) (pc' := 268) K d1_267 rfl rfl (by decide) rfl rfl ?_
  refine oW.isub (v := (1 : Int32)) (pc' := 269) K d1_268 (by decide) rfl ?_
  refine oW.iconst (v := (1 : Int32)) (pc' := 270) K d1_269 (by decide) rfl ?_
  refine oW.icmp_ne (pc' := 283) (pc3 := 273) K d1_270 (by decide) (by decide) rfl (fun q => absurd q (by decide)) (fun _ => ?_)
  refine oW.aloadN (pc' := 274) K d1_273 rfl rfl rfl ?_
  refine oW.aload (pc' := 276) K d1_274 rfl rfl rfl ?_
  refine oW.iload (pc' := 278) K d1_276 rfl rfl ?_
  refine oW.iaload (i := 3) (k := 0) (pc' := 279) K d1_278 rfl rfl (by decide) rfl rfl ?_
  refine oW.daload (i := 2) (k := 0) (pc' := 280) K d1_279 rfl rfl (by decide) rfl rfl ?_
  refine oW.goto (pc' := 294) K d1_280 (by decide) (by decide) ?_
  refine oW.dstore (Ls' := #[.val (.ref a), .val (.ref b), .val (.int (2 : Int32)), .val (.ref a4), .val (.double v69_1), .second, .val (.ref a79), .val (.ref a84), .val (.ref a89), .val (.int (2 : Int32)), .val (.ref a225), .val (.int (0 : Int32)), .val (.int (1 : Int32)), .val (.double v61), .second]) (pc' := 296) K d1_294 rfl rfl ?_
  refine oW.aload (pc' := 298) K d1_296 rfl rfl rfl ?_
  refine oW.aload (pc' := 300) K d1_298 rfl rfl rfl ?_
  refine oW.iload (pc' := 302) K d1_300 rfl rfl ?_
  refine oW.iaload (i := 3) (k := 0) (pc' := 303) K d1_302 rfl rfl (by decide) rfl rfl ?_
  refine oW.iload (pc' := 305) K d1_303 rfl rfl ?_
  refine oW.dload (pc' := 307) K d1_305 rfl rfl ?_
  refine oW.callS0 (argsL := [(.ref a225), (.int (0 : Int32)), (.int (1 : Int32)), (.double v61)]) (S := []) (rm := ({ frames := 1, cells := 0, slots := 0, locals := 30 } : Room)) (W := 0) (cells' := 5) (slots' := 10) (pc' := 310) K (hw _ (List.mem_of_getElem? (i := 9) rfl)) (hw _ (List.mem_of_getElem? (i := 10) rfl)) (hw _ (List.mem_of_getElem? (i := 11) rfl)) (hw _ (List.mem_of_getElem? (i := 12) rfl)) (by decide) (own_fill_2_0_1 hw) (lenOf pd_1 rfl) d1_307 rfl rfl (Nat.le_of_eq rfl) (by decide) (by decide) (by decide) (by decide) rfl rfl rfl ?_
  rintro _ rfl
  refine oW.iinc (v := (1 : Int32)) (Ls' := #[.val (.ref a), .val (.ref b), .val (.int (2 : Int32)), .val (.ref a4), .val (.double v69_1), .second, .val (.ref a79), .val (.ref a84), .val (.ref a89), .val (.int (2 : Int32)), .val (.ref a225), .val (.int (1 : Int32)), .val (.int (1 : Int32)), .val (.double v61), .second]) (pc' := 313) K d1_310 rfl (by decide) rfl rfl ?_
  refine oW.goto (pc' := 232) K d1_313 (by decide) (by decide) ?_
  refine oW.iload (pc' := 234) K d1_232 rfl rfl ?_
  refine oW.iload (pc' := 236) K d1_234 rfl rfl ?_
  refine oW.icmp_ge (pc' := 316) (pc3 := 239) K d1_236 (by decide) (by decide) rfl (fun q => absurd q (by decide)) (fun _ => ?_)
  refine oW.iload (pc' := 241) K d1_239 rfl rfl ?_
  refine oW.iconst (v := (1 : Int32)) (pc' := 242) K d1_241 (by decide) rfl ?_
  refine oW.iadd (v := (2 : Int32)) (pc' := 243) K d1_242 (by decide) rfl ?_
  refine oW.iload (pc' := 245) K d1_243 rfl rfl ?_
  refine oW.icmp_ge (pc' := 258) (pc3 := 248) K d1_245 (by decide) (by decide) rfl (fun _ => ?_) (fun q => absurd q (by decide))
  refine oW.iloadN (pc' := 259) K d1_258 rfl rfl ?_
  refine oW.istore (Ls' := #[.val (.ref a), .val (.ref b), .val (.int (2 : Int32)), .val (.ref a4), .val (.double v69_1), .second, .val (.ref a79), .val (.ref a84), .val (.ref a89), .val (.int (2 : Int32)), .val (.ref a225), .val (.int (1 : Int32)), .val (.int (2 : Int32)), .val (.double v61), .second]) (pc' := 261) K d1_259 rfl rfl ?_
  refine oW.iload (pc' := 263) K d1_261 rfl rfl ?_
  refine oW.aload (pc' := 265) K d1_263 rfl rfl rfl ?_
  refine oW.iload (pc' := 267) K d1_265 rfl rfl ?_
  refine oW.iaload (i := 3) (k := 1) (pc' := 268) K d1_267 rfl rfl (by decide) rfl rfl ?_
  refine oW.isub (v := (1 : Int32)) (pc' := 269) K d1_268 (by decide) rfl ?_
  refine oW.iconst (v := (1 : Int32)) (pc' := 270) K d1_269 (by decide) rfl ?_
  refine oW.icmp_ne (pc' := 283) (pc3 := 273) K d1_270 (by decide) (by decide) rfl (fun q => absurd q (by decide)) (fun _ => ?_)
  refine oW.aloadN (pc' := 274) K d1_273 rfl rfl rfl ?_
  refine oW.aload (pc' := 276) K d1_274 rfl rfl rfl ?_
  refine oW.iload (pc' := 278) K d1_276 rfl rfl ?_
  refine oW.iaload (i := 3) (k := 1) (pc' := 279) K d1_278 rfl rfl (by decide) rfl rfl ?_
  refine oW.daload (i := 2) (k := 1) (pc' := 280) K d1_279 rfl rfl (by decide) rfl rfl ?_
  refine oW.goto (pc' := 294) K d1_280 (by decide) (by decide) ?_
  refine oW.dstore (Ls' := #[.val (.ref a), .val (.ref b), .val (.int (2 : Int32)), .val (.ref a4), .val (.double v69_1), .second, .val (.ref a79), .val (.ref a84), .val (.ref a89), .val (.int (2 : Int32)), .val (.ref a225), .val (.int (1 : Int32)), .val (.int (2 : Int32)), .val (.double s1), .second]) (pc' := 296) K d1_294 rfl rfl ?_
  refine oW.aload (pc' := 298) K d1_296 rfl rfl rfl ?_
  refine oW.aload (pc' := 300) K d1_298 rfl rfl rfl ?_
  refine oW.iload (pc' := 302) K d1_300 rfl rfl ?_
  refine oW.iaload (i := 3) (k := 1) (pc' := 303) K d1_302 rfl rfl (by decide) rfl rfl ?_
  refine oW.iload (pc' := 305) K d1_303 rfl rfl ?_
  refine oW.dload (pc' := 307) K d1_305 rfl rfl ?_
  refine oW.callS0 (argsL := [(.ref a225), (.int (1 : Int32)), (.int (2 : Int32)), (.double s1)]) (S := []) (rm := ({ frames := 1, cells := 0, slots := 0, locals := 30 } : Room)) (W := 0) (cells' := 5) (slots' := 10) (pc' := 310) K (hw _ (List.mem_of_getElem? (i := 9) rfl)) (hw _ (List.mem_of_getElem? (i := 10) rfl)) (hw _ (List.mem_of_getElem? (i := 11) rfl)) (hw _ (List.mem_of_getElem? (i := 12) rfl)) (by decide) (own_fill_2_1_2 hw) (lenOf pd_1 rfl) d1_307 rfl rfl (Nat.le_of_eq rfl) (by decide) (by decide) (by decide) (by decide) rfl rfl rfl ?_
  rintro _ rfl
  refine oW.iinc (v := (2 : Int32)) (Ls' := #[.val (.ref a), .val (.ref b), .val (.int (2 : Int32)), .val (.ref a4), .val (.double v69_1), .second, .val (.ref a79), .val (.ref a84), .val (.ref a89), .val (.int (2 : Int32)), .val (.ref a225), .val (.int (2 : Int32)), .val (.int (2 : Int32)), .val (.double s1), .second]) (pc' := 313) K d1_310 rfl (by decide) rfl rfl ?_
  refine oW.goto (pc' := 232) K d1_313 (by decide) (by decide) ?_
  refine oW.iload (pc' := 234) K d1_232 rfl rfl ?_
  refine oW.iload (pc' := 236) K d1_234 rfl rfl ?_
  refine oW.icmp_ge (pc' := 316) (pc3 := 239) K d1_236 (by decide) (by decide) rfl (fun _ => ?_) (fun q => absurd q (by decide))
  refine oW.aload (pc' := 318) K d1_316 rfl rfl rfl ?_
  exact oW.retA K rfl rfl rfl d1_318 (by decide) (by decide) ⟨_, rfl, _, _, _, _, _, _, _, _, _, _, _, rfl, rfl, ⟨qv61, (hs1.up 3 rfl (by decide) hR1)⟩⟩
set_option maxRecDepth 65536 in
set_option maxHeartbeats 40000000 in
theorem own_fill_3_0_1 {l : Launch} {Z : State} {a0 : Array Value} {h0 : Heap} (hw : ∀ d ∈ tables_1, d.before a0 Z = true) {a0_ a1 a2 a3 a4 a5 a6 : Addr} {l0 l1 l2 l3 l4 l5 : List Value} {xv e0 e1 e2 : UInt64} :
    oCtr l Z h0 [] (⟨"java/util/Arrays", "fill", "([DIID)V"⟩ : MethodName) jdk_65_method_114_code 6 none ({ frames := 1, cells := 0, slots := 0, locals := 30 } : Room) #[(.ref a6), (.int (0 : Int32)), (.int (1 : Int32)), (.double xv)] [(a0_, .inl (.double, l0)), (a1, .inl (.double, l1)), (a2, .inl (.double, l2)), (a3, .inl (.int, l3)), (a4, .inl (.double, l4)), (a5, .inl (.double, l5)), (a6, .inl (.double, [(.double e0), (.double e1), (.double e2)]))] (oVoid fun d => d = [(a0_, .inl (.double, l0)), (a1, .inl (.double, l1)), (a2, .inl (.double, l2)), (a3, .inl (.int, l3)), (a4, .inl (.double, l4)), (a5, .inl (.double, l5)), (a6, .inl (.double, [(.double xv), (.double e1), (.double e2)]))]) := by
  refine oCtr.of (Ls := #[.val (.ref a6), .val (.int (0 : Int32)), .val (.int (1 : Int32)), .val (.double xv), .second, .unset]) (plainFor_of_name (by first | (simp [plainName, overriddenIn]; done) | decide +kernel)) (fun m => by first | (simp [entryFrame, mkF, argsToLocals, Value.category]; done) | rfl) ?_
  intro p e s m below meth c K
  refine oW.aloadN (pc' := 1) K d2_0 rfl rfl rfl ?_
  refine oW.alen (i := 6) (v := (3 : Int32)) (pc' := 2) K d2_1 rfl rfl rfl ?_
  refine oW.iloadN (pc' := 3) K d2_2 rfl rfl ?_
  refine oW.iloadN (pc' := 4) K d2_3 rfl rfl ?_
  refine oW.callS0 (argsL := [(.int (3 : Int32)), (.int (0 : Int32)), (.int (1 : Int32))]) (S := []) (rm := ({ frames := 0, cells := 0, slots := 0, locals := 0 } : Room)) (W := 0) (cells' := 0) (slots' := 0) (pc' := 7) K (hw _ (List.mem_of_getElem? (i := 13) rfl)) (hw _ (List.mem_of_getElem? (i := 14) rfl)) (hw _ (List.mem_of_getElem? (i := 11) rfl)) (hw _ (List.mem_of_getElem? (i := 15) rfl)) (by decide) (own_rc hw (by decide) (by decide) (by decide)) (lenOf pd_0 rfl) d2_4 rfl rfl (Nat.le_of_eq rfl) (by decide) (by decide) (by decide) (by decide) rfl rfl rfl ?_
  rintro _ rfl
  refine oW.iloadN (pc' := 8) K d2_7 rfl rfl ?_
  refine oW.istore (Ls' := #[.val (.ref a6), .val (.int (0 : Int32)), .val (.int (1 : Int32)), .val (.double xv), .second, .val (.int (0 : Int32))]) (pc' := 10) K d2_8 rfl rfl ?_
  refine oW.iload (pc' := 12) K d2_10 rfl rfl ?_
  refine oW.iloadN (pc' := 13) K d2_12 rfl rfl ?_
  refine oW.icmp_ge (pc' := 27) (pc3 := 16) K d2_13 (by decide) (by decide) rfl (fun q => absurd q (by decide)) (fun _ => ?_)
  refine oW.aloadN (pc' := 17) K d2_16 rfl rfl rfl ?_
  refine oW.iload (pc' := 19) K d2_17 rfl rfl ?_
  refine oW.dloadN (pc' := 20) K d2_19 rfl rfl ?_
  refine oW.dastore (i := 6) (k := 0) (ds' := [(a0_, .inl (.double, l0)), (a1, .inl (.double, l1)), (a2, .inl (.double, l2)), (a3, .inl (.int, l3)), (a4, .inl (.double, l4)), (a5, .inl (.double, l5)), (a6, .inl (.double, [(.double xv), (.double e1), (.double e2)]))]) (pc' := 21) K d2_20 rfl rfl (by decide) (Nat.lt_of_sub_eq_succ rfl) rfl rfl ?_
  refine oW.iinc (v := (1 : Int32)) (Ls' := #[.val (.ref a6), .val (.int (0 : Int32)), .val (.int (1 : Int32)), .val (.double xv), .second, .val (.int (1 : Int32))]) (pc' := 24) K d2_21 rfl (by decide) rfl rfl ?_
  refine oW.goto (pc' := 10) K d2_24 (by decide) (by decide) ?_
  refine oW.iload (pc' := 12) K d2_10 rfl rfl ?_
  refine oW.iloadN (pc' := 13) K d2_12 rfl rfl ?_
  refine oW.icmp_ge (pc' := 27) (pc3 := 16) K d2_13 (by decide) (by decide) rfl (fun _ => ?_) (fun q => absurd q (by decide))
  exact oW.retV K rfl d2_27 (by decide) (by decide) ⟨rfl, rfl⟩
set_option maxRecDepth 65536 in
set_option maxHeartbeats 40000000 in
theorem own_fill_3_1_2 {l : Launch} {Z : State} {a0 : Array Value} {h0 : Heap} (hw : ∀ d ∈ tables_1, d.before a0 Z = true) {a0_ a1 a2 a3 a4 a5 a6 : Addr} {l0 l1 l2 l3 l4 l5 : List Value} {xv e0 e1 e2 : UInt64} :
    oCtr l Z h0 [] (⟨"java/util/Arrays", "fill", "([DIID)V"⟩ : MethodName) jdk_65_method_114_code 6 none ({ frames := 1, cells := 0, slots := 0, locals := 30 } : Room) #[(.ref a6), (.int (1 : Int32)), (.int (2 : Int32)), (.double xv)] [(a0_, .inl (.double, l0)), (a1, .inl (.double, l1)), (a2, .inl (.double, l2)), (a3, .inl (.int, l3)), (a4, .inl (.double, l4)), (a5, .inl (.double, l5)), (a6, .inl (.double, [(.double e0), (.double e1), (.double e2)]))] (oVoid fun d => d = [(a0_, .inl (.double, l0)), (a1, .inl (.double, l1)), (a2, .inl (.double, l2)), (a3, .inl (.int, l3)), (a4, .inl (.double, l4)), (a5, .inl (.double, l5)), (a6, .inl (.double, [(.double e0), (.double xv), (.double e2)]))]) := by
  refine oCtr.of (Ls := #[.val (.ref a6), .val (.int (1 : Int32)), .val (.int (2 : Int32)), .val (.double xv), .second, .unset]) (plainFor_of_name (by first | (simp [plainName, overriddenIn]; done) | decide +kernel)) (fun m => by first | (simp [entryFrame, mkF, argsToLocals, Value.category]; done) | rfl) ?_
  intro p e s m below meth c K
  refine oW.aloadN (pc' := 1) K d2_0 rfl rfl rfl ?_
  refine oW.alen (i := 6) (v := (3 : Int32)) (pc' := 2) K d2_1 rfl rfl rfl ?_
  refine oW.iloadN (pc' := 3) K d2_2 rfl rfl ?_
  refine oW.iloadN (pc' := 4) K d2_3 rfl rfl ?_
  refine oW.callS0 (argsL := [(.int (3 : Int32)), (.int (1 : Int32)), (.int (2 : Int32))]) (S := []) (rm := ({ frames := 0, cells := 0, slots := 0, locals := 0 } : Room)) (W := 0) (cells' := 0) (slots' := 0) (pc' := 7) K (hw _ (List.mem_of_getElem? (i := 13) rfl)) (hw _ (List.mem_of_getElem? (i := 14) rfl)) (hw _ (List.mem_of_getElem? (i := 11) rfl)) (hw _ (List.mem_of_getElem? (i := 15) rfl)) (by decide) (own_rc hw (by decide) (by decide) (by decide)) (lenOf pd_0 rfl) d2_4 rfl rfl (Nat.le_of_eq rfl) (by decide) (by decide) (by decide) (by decide) rfl rfl rfl ?_
  rintro _ rfl
  refine oW.iloadN (pc' := 8) K d2_7 rfl rfl ?_
  refine oW.istore (Ls' := #[.val (.ref a6), .val (.int (1 : Int32)), .val (.int (2 : Int32)), .val (.double xv), .second, .val (.int (1 : Int32))]) (pc' := 10) K d2_8 rfl rfl ?_
  refine oW.iload (pc' := 12) K d2_10 rfl rfl ?_
  refine oW.iloadN (pc' := 13) K d2_12 rfl rfl ?_
  refine oW.icmp_ge (pc' := 27) (pc3 := 16) K d2_13 (by decide) (by decide) rfl (fun q => absurd q (by decide)) (fun _ => ?_)
  refine oW.aloadN (pc' := 17) K d2_16 rfl rfl rfl ?_
  refine oW.iload (pc' := 19) K d2_17 rfl rfl ?_
  refine oW.dloadN (pc' := 20) K d2_19 rfl rfl ?_
  refine oW.dastore (i := 6) (k := 1) (ds' := [(a0_, .inl (.double, l0)), (a1, .inl (.double, l1)), (a2, .inl (.double, l2)), (a3, .inl (.int, l3)), (a4, .inl (.double, l4)), (a5, .inl (.double, l5)), (a6, .inl (.double, [(.double e0), (.double xv), (.double e2)]))]) (pc' := 21) K d2_20 rfl rfl (by decide) (Nat.lt_of_sub_eq_succ rfl) rfl rfl ?_
  refine oW.iinc (v := (2 : Int32)) (Ls' := #[.val (.ref a6), .val (.int (1 : Int32)), .val (.int (2 : Int32)), .val (.double xv), .second, .val (.int (2 : Int32))]) (pc' := 24) K d2_21 rfl (by decide) rfl rfl ?_
  refine oW.goto (pc' := 10) K d2_24 (by decide) (by decide) ?_
  refine oW.iload (pc' := 12) K d2_10 rfl rfl ?_
  refine oW.iloadN (pc' := 13) K d2_12 rfl rfl ?_
  refine oW.icmp_ge (pc' := 27) (pc3 := 16) K d2_13 (by decide) (by decide) rfl (fun _ => ?_) (fun q => absurd q (by decide))
  exact oW.retV K rfl d2_27 (by decide) (by decide) ⟨rfl, rfl⟩
set_option maxRecDepth 65536 in
set_option maxHeartbeats 40000000 in
theorem own_fill_3_2_3 {l : Launch} {Z : State} {a0 : Array Value} {h0 : Heap} (hw : ∀ d ∈ tables_1, d.before a0 Z = true) {a0_ a1 a2 a3 a4 a5 a6 : Addr} {l0 l1 l2 l3 l4 l5 : List Value} {xv e0 e1 e2 : UInt64} :
    oCtr l Z h0 [] (⟨"java/util/Arrays", "fill", "([DIID)V"⟩ : MethodName) jdk_65_method_114_code 6 none ({ frames := 1, cells := 0, slots := 0, locals := 30 } : Room) #[(.ref a6), (.int (2 : Int32)), (.int (3 : Int32)), (.double xv)] [(a0_, .inl (.double, l0)), (a1, .inl (.double, l1)), (a2, .inl (.double, l2)), (a3, .inl (.int, l3)), (a4, .inl (.double, l4)), (a5, .inl (.double, l5)), (a6, .inl (.double, [(.double e0), (.double e1), (.double e2)]))] (oVoid fun d => d = [(a0_, .inl (.double, l0)), (a1, .inl (.double, l1)), (a2, .inl (.double, l2)), (a3, .inl (.int, l3)), (a4, .inl (.double, l4)), (a5, .inl (.double, l5)), (a6, .inl (.double, [(.double e0), (.double e1), (.double xv)]))]) := by
  refine oCtr.of (Ls := #[.val (.ref a6), .val (.int (2 : Int32)), .val (.int (3 : Int32)), .val (.double xv), .second, .unset]) (plainFor_of_name (by first | (simp [plainName, overriddenIn]; done) | decide +kernel)) (fun m => by first | (simp [entryFrame, mkF, argsToLocals, Value.category]; done) | rfl) ?_
  intro p e s m below meth c K
  refine oW.aloadN (pc' := 1) K d2_0 rfl rfl rfl ?_
  refine oW.alen (i := 6) (v := (3 : Int32)) (pc' := 2) K d2_1 rfl rfl rfl ?_
  refine oW.iloadN (pc' := 3) K d2_2 rfl rfl ?_
  refine oW.iloadN (pc' := 4) K d2_3 rfl rfl ?_
  refine oW.callS0 (argsL := [(.int (3 : Int32)), (.int (2 : Int32)), (.int (3 : Int32))]) (S := []) (rm := ({ frames := 0, cells := 0, slots := 0, locals := 0 } : Room)) (W := 0) (cells' := 0) (slots' := 0) (pc' := 7) K (hw _ (List.mem_of_getElem? (i := 13) rfl)) (hw _ (List.mem_of_getElem? (i := 14) rfl)) (hw _ (List.mem_of_getElem? (i := 11) rfl)) (hw _ (List.mem_of_getElem? (i := 15) rfl)) (by decide) (own_rc hw (by decide) (by decide) (by decide)) (lenOf pd_0 rfl) d2_4 rfl rfl (Nat.le_of_eq rfl) (by decide) (by decide) (by decide) (by decide) rfl rfl rfl ?_
  rintro _ rfl
  refine oW.iloadN (pc' := 8) K d2_7 rfl rfl ?_
  refine oW.istore (Ls' := #[.val (.ref a6), .val (.int (2 : Int32)), .val (.int (3 : Int32)), .val (.double xv), .second, .val (.int (2 : Int32))]) (pc' := 10) K d2_8 rfl rfl ?_
  refine oW.iload (pc' := 12) K d2_10 rfl rfl ?_
  refine oW.iloadN (pc' := 13) K d2_12 rfl rfl ?_
  refine oW.icmp_ge (pc' := 27) (pc3 := 16) K d2_13 (by decide) (by decide) rfl (fun q => absurd q (by decide)) (fun _ => ?_)
  refine oW.aloadN (pc' := 17) K d2_16 rfl rfl rfl ?_
  refine oW.iload (pc' := 19) K d2_17 rfl rfl ?_
  refine oW.dloadN (pc' := 20) K d2_19 rfl rfl ?_
  refine oW.dastore (i := 6) (k := 2) (ds' := [(a0_, .inl (.double, l0)), (a1, .inl (.double, l1)), (a2, .inl (.double, l2)), (a3, .inl (.int, l3)), (a4, .inl (.double, l4)), (a5, .inl (.double, l5)), (a6, .inl (.double, [(.double e0), (.double e1), (.double xv)]))]) (pc' := 21) K d2_20 rfl rfl (by decide) (Nat.lt_of_sub_eq_succ rfl) rfl rfl ?_
  refine oW.iinc (v := (3 : Int32)) (Ls' := #[.val (.ref a6), .val (.int (2 : Int32)), .val (.int (3 : Int32)), .val (.double xv), .second, .val (.int (3 : Int32))]) (pc' := 24) K d2_21 rfl (by decide) rfl rfl ?_
  refine oW.goto (pc' := 10) K d2_24 (by decide) (by decide) ?_
  refine oW.iload (pc' := 12) K d2_10 rfl rfl ?_
  refine oW.iloadN (pc' := 13) K d2_12 rfl rfl ?_
  refine oW.icmp_ge (pc' := 27) (pc3 := 16) K d2_13 (by decide) (by decide) rfl (fun _ => ?_) (fun q => absurd q (by decide))
  exact oW.retV K rfl d2_27 (by decide) (by decide) ⟨rfl, rfl⟩
set_option maxRecDepth 65536 in
set_option maxHeartbeats 40000000 in
theorem own_fill_3_0_2 {l : Launch} {Z : State} {a0 : Array Value} {h0 : Heap} (hw : ∀ d ∈ tables_1, d.before a0 Z = true) {a0_ a1 a2 a3 a4 a5 a6 : Addr} {l0 l1 l2 l3 l4 l5 : List Value} {xv e0 e1 e2 : UInt64} :
    oCtr l Z h0 [] (⟨"java/util/Arrays", "fill", "([DIID)V"⟩ : MethodName) jdk_65_method_114_code 6 none ({ frames := 1, cells := 0, slots := 0, locals := 30 } : Room) #[(.ref a6), (.int (0 : Int32)), (.int (2 : Int32)), (.double xv)] [(a0_, .inl (.double, l0)), (a1, .inl (.double, l1)), (a2, .inl (.double, l2)), (a3, .inl (.int, l3)), (a4, .inl (.double, l4)), (a5, .inl (.double, l5)), (a6, .inl (.double, [(.double e0), (.double e1), (.double e2)]))] (oVoid fun d => d = [(a0_, .inl (.double, l0)), (a1, .inl (.double, l1)), (a2, .inl (.double, l2)), (a3, .inl (.int, l3)), (a4, .inl (.double, l4)), (a5, .inl (.double, l5)), (a6, .inl (.double, [(.double xv), (.double xv), (.double e2)]))]) := by
  refine oCtr.of (Ls := #[.val (.ref a6), .val (.int (0 : Int32)), .val (.int (2 : Int32)), .val (.double xv), .second, .unset]) (plainFor_of_name (by first | (simp [plainName, overriddenIn]; done) | decide +kernel)) (fun m => by first | (simp [entryFrame, mkF, argsToLocals, Value.category]; done) | rfl) ?_
  intro p e s m below meth c K
  refine oW.aloadN (pc' := 1) K d2_0 rfl rfl rfl ?_
  refine oW.alen (i := 6) (v := (3 : Int32)) (pc' := 2) K d2_1 rfl rfl rfl ?_
  refine oW.iloadN (pc' := 3) K d2_2 rfl rfl ?_
  refine oW.iloadN (pc' := 4) K d2_3 rfl rfl ?_
  refine oW.callS0 (argsL := [(.int (3 : Int32)), (.int (0 : Int32)), (.int (2 : Int32))]) (S := []) (rm := ({ frames := 0, cells := 0, slots := 0, locals := 0 } : Room)) (W := 0) (cells' := 0) (slots' := 0) (pc' := 7) K (hw _ (List.mem_of_getElem? (i := 13) rfl)) (hw _ (List.mem_of_getElem? (i := 14) rfl)) (hw _ (List.mem_of_getElem? (i := 11) rfl)) (hw _ (List.mem_of_getElem? (i := 15) rfl)) (by decide) (own_rc hw (by decide) (by decide) (by decide)) (lenOf pd_0 rfl) d2_4 rfl rfl (Nat.le_of_eq rfl) (by decide) (by decide) (by decide) (by decide) rfl rfl rfl ?_
  rintro _ rfl
  refine oW.iloadN (pc' := 8) K d2_7 rfl rfl ?_
  refine oW.istore (Ls' := #[.val (.ref a6), .val (.int (0 : Int32)), .val (.int (2 : Int32)), .val (.double xv), .second, .val (.int (0 : Int32))]) (pc' := 10) K d2_8 rfl rfl ?_
  refine oW.iload (pc' := 12) K d2_10 rfl rfl ?_
  refine oW.iloadN (pc' := 13) K d2_12 rfl rfl ?_
  refine oW.icmp_ge (pc' := 27) (pc3 := 16) K d2_13 (by decide) (by decide) rfl (fun q => absurd q (by decide)) (fun _ => ?_)
  refine oW.aloadN (pc' := 17) K d2_16 rfl rfl rfl ?_
  refine oW.iload (pc' := 19) K d2_17 rfl rfl ?_
  refine oW.dloadN (pc' := 20) K d2_19 rfl rfl ?_
  refine oW.dastore (i := 6) (k := 0) (ds' := [(a0_, .inl (.double, l0)), (a1, .inl (.double, l1)), (a2, .inl (.double, l2)), (a3, .inl (.int, l3)), (a4, .inl (.double, l4)), (a5, .inl (.double, l5)), (a6, .inl (.double, [(.double xv), (.double e1), (.double e2)]))]) (pc' := 21) K d2_20 rfl rfl (by decide) (Nat.lt_of_sub_eq_succ rfl) rfl rfl ?_
  refine oW.iinc (v := (1 : Int32)) (Ls' := #[.val (.ref a6), .val (.int (0 : Int32)), .val (.int (2 : Int32)), .val (.double xv), .second, .val (.int (1 : Int32))]) (pc' := 24) K d2_21 rfl (by decide) rfl rfl ?_
  refine oW.goto (pc' := 10) K d2_24 (by decide) (by decide) ?_
  refine oW.iload (pc' := 12) K d2_10 rfl rfl ?_
  refine oW.iloadN (pc' := 13) K d2_12 rfl rfl ?_
  refine oW.icmp_ge (pc' := 27) (pc3 := 16) K d2_13 (by decide) (by decide) rfl (fun q => absurd q (by decide)) (fun _ => ?_)
  refine oW.aloadN (pc' := 17) K d2_16 rfl rfl rfl ?_
  refine oW.iload (pc' := 19) K d2_17 rfl rfl ?_
  refine oW.dloadN (pc' := 20) K d2_19 rfl rfl ?_
  refine oW.dastore (i := 6) (k := 1) (ds' := [(a0_, .inl (.double, l0)), (a1, .inl (.double, l1)), (a2, .inl (.double, l2)), (a3, .inl (.int, l3)), (a4, .inl (.double, l4)), (a5, .inl (.double, l5)), (a6, .inl (.double, [(.double xv), (.double xv), (.double e2)]))]) (pc' := 21) K d2_20 rfl rfl (by decide) (Nat.lt_of_sub_eq_succ rfl) rfl rfl ?_
  refine oW.iinc (v := (2 : Int32)) (Ls' := #[.val (.ref a6), .val (.int (0 : Int32)), .val (.int (2 : Int32)), .val (.double xv), .second, .val (.int (2 : Int32))]) (pc' := 24) K d2_21 rfl (by decide) rfl rfl ?_
  refine oW.goto (pc' := 10) K d2_24 (by decide) (by decide) ?_
  refine oW.iload (pc' := 12) K d2_10 rfl rfl ?_
  refine oW.iloadN (pc' := 13) K d2_12 rfl rfl ?_
  refine oW.icmp_ge (pc' := 27) (pc3 := 16) K d2_13 (by decide) (by decide) rfl (fun _ => ?_) (fun q => absurd q (by decide))
  exact oW.retV K rfl d2_27 (by decide) (by decide) ⟨rfl, rfl⟩
set_option maxRecDepth 65536 in
set_option maxHeartbeats 40000000 in
theorem own_ir3 {l : Launch} {Z : State} {a0 : Array Value} {h0 : Heap} (hw : ∀ d ∈ tables_1, d.before a0 Z = true) {a b : Addr} {s0 p0 s1 p1 s2 p2 : UInt64} {u0 q0 R0 u1 q1 R1 u2 q2 R2 g1 T0 c0 g2 T1 c1 : Int} (hs0 : oQ u0 0 s0) (hp0 : oQ q0 5 p0) (hq0 : 1 ≤ q0 ∧ q0 ≤ 32) (hu0 : -8589934592 ≤ u0 ∧ u0 ≤ 8589934592) (hb0 : -68719476736 ≤ R0 ∧ R0 ≤ 68719476736) (hs1 : oQ u1 0 s1) (hp1 : oQ q1 5 p1) (hq1 : 1 ≤ q1 ∧ q1 ≤ 32) (hu1 : -8589934592 ≤ u1 ∧ u1 ≤ 8589934592) (hb1 : -68719476736 ≤ R1 ∧ R1 ≤ 68719476736) (hs2 : oQ u2 0 s2) (hp2 : oQ q2 5 p2) (hq2 : 1 ≤ q2 ∧ q2 ≤ 32) (hu2 : -8589934592 ≤ u2 ∧ u2 ≤ 8589934592) (hb2 : -68719476736 ≤ R2 ∧ R2 ≤ 68719476736) (hsum : q0 + q1 + q2 ≤ 32) (hg0 : u1 - u0 = g1) (hT0 : T0 = q1 + q2) (hc0 : q0 * c0 = 8) (hP0 : 0 ≤ g1 * T0 ∧ g1 * T0 ≤ 33554432) (hPc0 : 0 ≤ g1 * T0 * c0 ∧ g1 * T0 * c0 ≤ 268435456) (hR0 : u0 * 8 - g1 * T0 * c0 = R0) (hm0 : R0 ≤ R2) (hg1 : u2 - u1 = g2) (hT1 : T1 = q2) (hc1 : q1 * c1 = 8) (hP1 : 0 ≤ g2 * T1 ∧ g2 * T1 ≤ 33554432) (hPc1 : 0 ≤ g2 * T1 * c1 ∧ g2 * T1 * c1 ≤ 268435456) (hR1 : u1 * 8 - g2 * T1 * c1 = R1) (hm1 : R1 ≤ R2) (hR2 : u2 * 8 = R2) :
    oCtr l Z h0 [] (⟨"com/example/arrivage/arrivage/mechanism/VirtualValues", "ironed", "([D[D)[D"⟩ : MethodName) prog_19_method_2_code 15 (some (.array .double)) ({ frames := 2, cells := 5, slots := 20, locals := 60 } : Room) #[(.ref a), (.ref b)] [(a, .inl (.double, [(.double s0), (.double s1), (.double s2)])), (b, .inl (.double, [(.double p0), (.double p1), (.double p2)]))] (oVal fun w d => ∃ (a2 a3 a4 a5 a6 : Addr) (l2 l3 l4 l5 : List Value) (v0 v1 v2 : UInt64), w = .ref a6 ∧ d = [(a, .inl (.double, [(.double s0), (.double s1), (.double s2)])), (b, .inl (.double, [(.double p0), (.double p1), (.double p2)])), (a2, .inl (.double, l2)), (a3, .inl (.int, l3)), (a4, .inl (.double, l4)), (a5, .inl (.double, l5)), (a6, .inl (.double, [(.double v0), (.double v1), (.double v2)]))] ∧ ((R0 ≤ R1 ∧ oQ R0 3 v0 ∧ oQ R1 3 v1) ∨ (R1 < R0 ∧ oDq (q0 * R0 + q1 * R1) (q0 + q1) v0 ∧ v0 = v1)) ∧ oQ R2 3 v2) := by
  refine oCtr.of (Ls := #[.val (.ref a), .val (.ref b), .unset, .unset, .unset, .unset, .unset, .unset, .unset, .unset, .unset, .unset, .unset, .unset, .unset]) (plainFor_of_name (by first | (simp [plainName, overriddenIn]; done) | decide +kernel)) (fun m => by first | (simp [entryFrame, mkF, argsToLocals, Value.category]; done) | rfl) ?_
  intro p e s m below meth c K
  have hN0 := oMBr (q := q0) (R := R0) (by omega) hb0
  have hN1 := oMBr (q := q1) (R := R1) (by omega) hb1
  have hN2 := oMBr (q := q2) (R := R2) (by omega) hb2
  refine oW.aloadN (pc' := 1) K d1_0 rfl rfl rfl ?_
  refine oW.alen (i := 0) (v := (3 : Int32)) (pc' := 2) K d1_1 rfl rfl rfl ?_
  refine oW.istoreN (Ls' := #[.val (.ref a), .val (.ref b), .val (.int (3 : Int32)), .unset, .unset, .unset, .unset, .unset, .unset, .unset, .unset, .unset, .unset, .unset, .unset]) (pc' := 3) K d1_2 rfl rfl ?_
  refine oW.iloadN (pc' := 4) K d1_3 rfl rfl ?_
  refine oW.newarr (n := 3) (cells' := 1) (slots' := 3) (dsf := fun z => [(a, .inl (.double, [(.double s0), (.double s1), (.double s2)])), (b, .inl (.double, [(.double p0), (.double p1), (.double p2)])), (z, .inl (.double, [(.double (0 : UInt64)), (.double (0 : UInt64)), (.double (0 : UInt64))]))]) (pc' := 6) K (hw _ (List.mem_of_getElem? (i := 2) rfl)) d1_4 rfl (by decide) (by decide) (by decide) (by decide) rfl rfl (fun _ => rfl) rfl ?_
  intro a4 ha4
  refine oW.astoreN (Ls' := #[.val (.ref a), .val (.ref b), .val (.int (3 : Int32)), .val (.ref a4), .unset, .unset, .unset, .unset, .unset, .unset, .unset, .unset, .unset, .unset, .unset]) (pc' := 7) K d1_6 rfl rfl rfl ?_
  refine oW.dconst0 (pc' := 8) K d1_7 rfl ?_
  refine oW.dstore (Ls' := #[.val (.ref a), .val (.ref b), .val (.int (3 : Int32)), .val (.ref a4), .val (.double (0 : UInt64)), .second, .unset, .unset, .unset, .unset, .unset, .unset, .unset, .unset, .unset]) (pc' := 10) K d1_8 rfl rfl ?_
  refine oW.iloadN (pc' := 11) K d1_10 rfl rfl ?_
  refine oW.iconst (v := (1 : Int32)) (pc' := 12) K d1_11 (by decide) rfl ?_
  refine oW.isub (v := (2 : Int32)) (pc' := 13) K d1_12 (by decide) rfl ?_
  refine oW.istore (Ls' := #[.val (.ref a), .val (.ref b), .val (.int (3 : Int32)), .val (.ref a4), .val (.double (0 : UInt64)), .second, .val (.int (2 : Int32)), .unset, .unset, .unset, .unset, .unset, .unset, .unset, .unset]) (pc' := 15) K d1_13 rfl rfl ?_
  refine oW.iload (pc' := 17) K d1_15 rfl rfl ?_
  refine oW.if_lt (pc' := 78) (pc3 := 20) K d1_17 (by decide) (by decide) rfl (fun q => absurd q (by decide)) (fun _ => ?_)
  refine oW.aloadN (pc' := 21) K d1_20 rfl rfl rfl ?_
  refine oW.iload (pc' := 23) K d1_21 rfl rfl ?_
  refine oW.iload (pc' := 25) K d1_23 rfl rfl ?_
  refine oW.iloadN (pc' := 26) K d1_25 rfl rfl ?_
  refine oW.iconst (v := (1 : Int32)) (pc' := 27) K d1_26 (by decide) rfl ?_
  refine oW.isub (v := (2 : Int32)) (pc' := 28) K d1_27 (by decide) rfl ?_
  refine oW.icmp_ne (pc' := 38) (pc3 := 31) K d1_28 (by decide) (by decide) rfl (fun q => absurd q (by decide)) (fun _ => ?_)
  refine oW.aloadN (pc' := 32) K d1_31 rfl rfl rfl ?_
  refine oW.iload (pc' := 34) K d1_32 rfl rfl ?_
  refine oW.daload (i := 0) (k := 2) (pc' := 35) K d1_34 rfl rfl (by decide) rfl rfl ?_
  refine oW.goto (pc' := 62) K d1_35 (by decide) (by decide) ?_
  refine oW.dastore (i := 2) (k := 2) (ds' := [(a, .inl (.double, [(.double s0), (.double s1), (.double s2)])), (b, .inl (.double, [(.double p0), (.double p1), (.double p2)])), (a4, .inl (.double, [(.double (0 : UInt64)), (.double (0 : UInt64)), (.double s2)]))]) (pc' := 63) K d1_62 rfl rfl (by decide) (Nat.lt_of_sub_eq_succ rfl) rfl rfl ?_
  refine oW.dload (pc' := 65) K d1_63 rfl rfl ?_
  refine oW.aloadN (pc' := 66) K d1_65 rfl rfl rfl ?_
  refine oW.iload (pc' := 68) K d1_66 rfl rfl ?_
  refine oW.daload (i := 1) (k := 2) (pc' := 69) K d1_68 rfl rfl (by decide) rfl rfl ?_
  obtain ⟨v69, ev69⟩ : ∃ t_ : UInt64, t_ = FP.dadd (0 : UInt64) p2 := ⟨_, rfl⟩
  have qv69 : oQ (T1) 5 v69 := ((oQ0 5).add hp2 ev69 (by decide) (by omega)).cast rfl (by omega)
  refine oW.dadd (pc' := 70) K d1_69 ev69 (qv69.nn) rfl ?_
  refine oW.dstore (Ls' := #[.val (.ref a), .val (.ref b), .val (.int (3 : Int32)), .val (.ref a4), .val (.double v69), .second, .val (.int (2 : Int32)), .unset, .unset, .unset, .unset, .unset, .unset, .unset, .unset]) (pc' := 72) K d1_70 rfl rfl ?_
  refine oW.iinc (v := (1 : Int32)) (Ls' := #[.val (.ref a), .val (.ref b), .val (.int (3 : Int32)), .val (.ref a4), .val (.double v69), .second, .val (.int (1 : Int32)), .unset, .unset, .unset, .unset, .unset, .unset, .unset, .unset]) (pc' := 75) K d1_72 rfl (by decide) rfl rfl ?_
  refine oW.goto (pc' := 15) K d1_75 (by decide) (by decide) ?_
  refine oW.iload (pc' := 17) K d1_15 rfl rfl ?_
  refine oW.if_lt (pc' := 78) (pc3 := 20) K d1_17 (by decide) (by decide) rfl (fun q => absurd q (by decide)) (fun _ => ?_)
  refine oW.aloadN (pc' := 21) K d1_20 rfl rfl rfl ?_
  refine oW.iload (pc' := 23) K d1_21 rfl rfl ?_
  refine oW.iload (pc' := 25) K d1_23 rfl rfl ?_
  refine oW.iloadN (pc' := 26) K d1_25 rfl rfl ?_
  refine oW.iconst (v := (1 : Int32)) (pc' := 27) K d1_26 (by decide) rfl ?_
  refine oW.isub (v := (2 : Int32)) (pc' := 28) K d1_27 (by decide) rfl ?_
  refine oW.icmp_ne (pc' := 38) (pc3 := 31) K d1_28 (by decide) (by decide) rfl (fun _ => ?_) (fun q => absurd q (by decide))
  refine oW.aloadN (pc' := 39) K d1_38 rfl rfl rfl ?_
  refine oW.iload (pc' := 41) K d1_39 rfl rfl ?_
  refine oW.daload (i := 0) (k := 1) (pc' := 42) K d1_41 rfl rfl (by decide) rfl rfl ?_
  refine oW.aloadN (pc' := 43) K d1_42 rfl rfl rfl ?_
  refine oW.iload (pc' := 45) K d1_43 rfl rfl ?_
  refine oW.iconst (v := (1 : Int32)) (pc' := 46) K d1_45 (by decide) rfl ?_
  refine oW.iadd (v := (2 : Int32)) (pc' := 47) K d1_46 (by decide) rfl ?_
  refine oW.daload (i := 0) (k := 2) (pc' := 48) K d1_47 rfl rfl (by decide) rfl rfl ?_
  refine oW.aloadN (pc' := 49) K d1_48 rfl rfl rfl ?_
  refine oW.iload (pc' := 51) K d1_49 rfl rfl ?_
  refine oW.daload (i := 0) (k := 1) (pc' := 52) K d1_51 rfl rfl (by decide) rfl rfl ?_
  obtain ⟨v52, ev52⟩ : ∃ t_ : UInt64, t_ = FP.dsub s2 s1 := ⟨_, rfl⟩
  have qv52 : oQ (g2) 0 v52 := (hs2.sub hs1 ev52 (by decide) (by omega)).cast rfl hg1
  refine oW.dsub (pc' := 53) K d1_52 ev52 (qv52.nn) rfl ?_
  refine oW.dload (pc' := 55) K d1_53 rfl rfl ?_
  obtain ⟨v55, ev55⟩ : ∃ t_ : UInt64, t_ = FP.dmul v52 v69 := ⟨_, rfl⟩
  have qv55 : oQ (g2 * T1) 5 v55 := (qv52.mul qv69 ev55 (by decide) (by omega)).cast rfl rfl
  refine oW.dmul (pc' := 56) K d1_55 ev55 (qv55.nn) rfl ?_
  refine oW.aloadN (pc' := 57) K d1_56 rfl rfl rfl ?_
  refine oW.iload (pc' := 59) K d1_57 rfl rfl ?_
  refine oW.daload (i := 1) (k := 1) (pc' := 60) K d1_59 rfl rfl (by decide) rfl rfl ?_
  obtain ⟨v60, ev60⟩ : ∃ t_ : UInt64, t_ = FP.ddiv v55 p1 := ⟨_, rfl⟩
  have qv60 : oQ (g2 * T1 * c1) 3 v60 := qv55.divx hp1 ev60 _ 3 (by omega) (by decide) (by decide) (by decide) (by omega) (oDc hc1)
  refine oW.ddiv (pc' := 61) K d1_60 ev60 (qv60.nn) rfl ?_
  obtain ⟨v61, ev61⟩ : ∃ t_ : UInt64, t_ = FP.dsub s1 v60 := ⟨_, rfl⟩
  have qv61 : oQ (R1) 3 v61 := ((hs1.up 3 rfl (by decide) rfl).sub qv60 ev61 (by decide) (by rw [show ((2 ^ 3 : Nat) : Int) = 8 by rfl]; omega)).cast rfl hR1
  refine oW.dsub (pc' := 62) K d1_61 ev61 (qv61.nn) rfl ?_
  refine oW.dastore (i := 2) (k := 1) (ds' := [(a, .inl (.double, [(.double s0), (.double s1), (.double s2)])), (b, .inl (.double, [(.double p0), (.double p1), (.double p2)])), (a4, .inl (.double, [(.double (0 : UInt64)), (.double v61), (.double s2)]))]) (pc' := 63) K d1_62 rfl rfl (by decide) (Nat.lt_of_sub_eq_succ rfl) rfl rfl ?_
  refine oW.dload (pc' := 65) K d1_63 rfl rfl ?_
  refine oW.aloadN (pc' := 66) K d1_65 rfl rfl rfl ?_
  refine oW.iload (pc' := 68) K d1_66 rfl rfl ?_
  refine oW.daload (i := 1) (k := 1) (pc' := 69) K d1_68 rfl rfl (by decide) rfl rfl ?_
  obtain ⟨v69_1, ev69_1⟩ : ∃ t_ : UInt64, t_ = FP.dadd v69 p1 := ⟨_, rfl⟩
  have qv69_1 : oQ (T0) 5 v69_1 := (qv69.add hp1 ev69_1 (by decide) (by omega)).cast rfl (by omega)
  refine oW.dadd (pc' := 70) K d1_69 ev69_1 (qv69_1.nn) rfl ?_
  refine oW.dstore (Ls' := #[.val (.ref a), .val (.ref b), .val (.int (3 : Int32)), .val (.ref a4), .val (.double v69_1), .second, .val (.int (1 : Int32)), .unset, .unset, .unset, .unset, .unset, .unset, .unset, .unset]) (pc' := 72) K d1_70 rfl rfl ?_
  refine oW.iinc (v := (0 : Int32)) (Ls' := #[.val (.ref a), .val (.ref b), .val (.int (3 : Int32)), .val (.ref a4), .val (.double v69_1), .second, .val (.int (0 : Int32)), .unset, .unset, .unset, .unset, .unset, .unset, .unset, .unset]) (pc' := 75) K d1_72 rfl (by decide) rfl rfl ?_
  refine oW.goto (pc' := 15) K d1_75 (by decide) (by decide) ?_
  refine oW.iload (pc' := 17) K d1_15 rfl rfl ?_
  refine oW.if_lt (pc' := 78) (pc3 := 20) K d1_17 (by decide) (by decide) rfl (fun q => absurd q (by decide)) (fun _ => ?_)
  refine oW.aloadN (pc' := 21) K d1_20 rfl rfl rfl ?_
  refine oW.iload (pc' := 23) K d1_21 rfl rfl ?_
  refine oW.iload (pc' := 25) K d1_23 rfl rfl ?_
  refine oW.iloadN (pc' := 26) K d1_25 rfl rfl ?_
  refine oW.iconst (v := (1 : Int32)) (pc' := 27) K d1_26 (by decide) rfl ?_
  refine oW.isub (v := (2 : Int32)) (pc' := 28) K d1_27 (by decide) rfl ?_
  refine oW.icmp_ne (pc' := 38) (pc3 := 31) K d1_28 (by decide) (by decide) rfl (fun _ => ?_) (fun q => absurd q (by decide))
  refine oW.aloadN (pc' := 39) K d1_38 rfl rfl rfl ?_
  refine oW.iload (pc' := 41) K d1_39 rfl rfl ?_
  refine oW.daload (i := 0) (k := 0) (pc' := 42) K d1_41 rfl rfl (by decide) rfl rfl ?_
  refine oW.aloadN (pc' := 43) K d1_42 rfl rfl rfl ?_
  refine oW.iload (pc' := 45) K d1_43 rfl rfl ?_
  refine oW.iconst (v := (1 : Int32)) (pc' := 46) K d1_45 (by decide) rfl ?_
  refine oW.iadd (v := (1 : Int32)) (pc' := 47) K d1_46 (by decide) rfl ?_
  refine oW.daload (i := 0) (k := 1) (pc' := 48) K d1_47 rfl rfl (by decide) rfl rfl ?_
  refine oW.aloadN (pc' := 49) K d1_48 rfl rfl rfl ?_
  refine oW.iload (pc' := 51) K d1_49 rfl rfl ?_
  refine oW.daload (i := 0) (k := 0) (pc' := 52) K d1_51 rfl rfl (by decide) rfl rfl ?_
  obtain ⟨v52_1, ev52_1⟩ : ∃ t_ : UInt64, t_ = FP.dsub s1 s0 := ⟨_, rfl⟩
  have qv52_1 : oQ (g1) 0 v52_1 := (hs1.sub hs0 ev52_1 (by decide) (by omega)).cast rfl hg0
  refine oW.dsub (pc' := 53) K d1_52 ev52_1 (qv52_1.nn) rfl ?_
  refine oW.dload (pc' := 55) K d1_53 rfl rfl ?_
  obtain ⟨v55_1, ev55_1⟩ : ∃ t_ : UInt64, t_ = FP.dmul v52_1 v69_1 := ⟨_, rfl⟩
  have qv55_1 : oQ (g1 * T0) 5 v55_1 := (qv52_1.mul qv69_1 ev55_1 (by decide) (by omega)).cast rfl rfl
  refine oW.dmul (pc' := 56) K d1_55 ev55_1 (qv55_1.nn) rfl ?_
  refine oW.aloadN (pc' := 57) K d1_56 rfl rfl rfl ?_
  refine oW.iload (pc' := 59) K d1_57 rfl rfl ?_
  refine oW.daload (i := 1) (k := 0) (pc' := 60) K d1_59 rfl rfl (by decide) rfl rfl ?_
  obtain ⟨v60_1, ev60_1⟩ : ∃ t_ : UInt64, t_ = FP.ddiv v55_1 p0 := ⟨_, rfl⟩
  have qv60_1 : oQ (g1 * T0 * c0) 3 v60_1 := qv55_1.divx hp0 ev60_1 _ 3 (by omega) (by decide) (by decide) (by decide) (by omega) (oDc hc0)
  refine oW.ddiv (pc' := 61) K d1_60 ev60_1 (qv60_1.nn) rfl ?_
  obtain ⟨v61_1, ev61_1⟩ : ∃ t_ : UInt64, t_ = FP.dsub s0 v60_1 := ⟨_, rfl⟩
  have qv61_1 : oQ (R0) 3 v61_1 := ((hs0.up 3 rfl (by decide) rfl).sub qv60_1 ev61_1 (by decide) (by rw [show ((2 ^ 3 : Nat) : Int) = 8 by rfl]; omega)).cast rfl hR0
  refine oW.dsub (pc' := 62) K d1_61 ev61_1 (qv61_1.nn) rfl ?_
  refine oW.dastore (i := 2) (k := 0) (ds' := [(a, .inl (.double, [(.double s0), (.double s1), (.double s2)])), (b, .inl (.double, [(.double p0), (.double p1), (.double p2)])), (a4, .inl (.double, [(.double v61_1), (.double v61), (.double s2)]))]) (pc' := 63) K d1_62 rfl rfl (by decide) (Nat.lt_of_sub_eq_succ rfl) rfl rfl ?_
  refine oW.dload (pc' := 65) K d1_63 rfl rfl ?_
  refine oW.aloadN (pc' := 66) K d1_65 rfl rfl rfl ?_
  refine oW.iload (pc' := 68) K d1_66 rfl rfl ?_
  refine oW.daload (i := 1) (k := 0) (pc' := 69) K d1_68 rfl rfl (by decide) rfl rfl ?_
  obtain ⟨v69_2, ev69_2⟩ : ∃ t_ : UInt64, t_ = FP.dadd v69_1 p0 := ⟨_, rfl⟩
  have qv69_2 : oQ (T0 + q0) 5 v69_2 := (qv69_1.add hp0 ev69_2 (by decide) (by omega)).cast rfl (by omega)
  refine oW.dadd (pc' := 70) K d1_69 ev69_2 (qv69_2.nn) rfl ?_
  refine oW.dstore (Ls' := #[.val (.ref a), .val (.ref b), .val (.int (3 : Int32)), .val (.ref a4), .val (.double v69_2), .second, .val (.int (0 : Int32)), .unset, .unset, .unset, .unset, .unset, .unset, .unset, .unset]) (pc' := 72) K d1_70 rfl rfl ?_
  refine oW.iinc (v := (-1 : Int32)) (Ls' := #[.val (.ref a), .val (.ref b), .val (.int (3 : Int32)), .val (.ref a4), .val (.double v69_2), .second, .val (.int (-1 : Int32)), .unset, .unset, .unset, .unset, .unset, .unset, .unset, .unset]) (pc' := 75) K d1_72 rfl (by decide) rfl rfl ?_
  refine oW.goto (pc' := 15) K d1_75 (by decide) (by decide) ?_
  refine oW.iload (pc' := 17) K d1_15 rfl rfl ?_
  refine oW.if_lt (pc' := 78) (pc3 := 20) K d1_17 (by decide) (by decide) rfl (fun _ => ?_) (fun q => absurd q (by decide))
  refine oW.iloadN (pc' := 79) K d1_78 rfl rfl ?_
  refine oW.newarr (n := 3) (cells' := 2) (slots' := 6) (dsf := fun z => [(a, .inl (.double, [(.double s0), (.double s1), (.double s2)])), (b, .inl (.double, [(.double p0), (.double p1), (.double p2)])), (a4, .inl (.double, [(.double v61_1), (.double v61), (.double s2)])), (z, .inl (.int, [(.int (0 : Int32)), (.int (0 : Int32)), (.int (0 : Int32))]))]) (pc' := 81) K (hw _ (List.mem_of_getElem? (i := 8) rfl)) d1_79 rfl (by decide) (by decide) (by decide) (by decide) rfl rfl (fun _ => rfl) rfl ?_
  intro a79 ha79
  refine oW.astore (Ls' := #[.val (.ref a), .val (.ref b), .val (.int (3 : Int32)), .val (.ref a4), .val (.double v69_2), .second, .val (.ref a79), .unset, .unset, .unset, .unset, .unset, .unset, .unset, .unset]) (pc' := 83) K d1_81 rfl rfl rfl ?_
  refine oW.iloadN (pc' := 84) K d1_83 rfl rfl ?_
  refine oW.newarr (n := 3) (cells' := 3) (slots' := 9) (dsf := fun z => [(a, .inl (.double, [(.double s0), (.double s1), (.double s2)])), (b, .inl (.double, [(.double p0), (.double p1), (.double p2)])), (a4, .inl (.double, [(.double v61_1), (.double v61), (.double s2)])), (a79, .inl (.int, [(.int (0 : Int32)), (.int (0 : Int32)), (.int (0 : Int32))])), (z, .inl (.double, [(.double (0 : UInt64)), (.double (0 : UInt64)), (.double (0 : UInt64))]))]) (pc' := 86) K (hw _ (List.mem_of_getElem? (i := 2) rfl)) d1_84 rfl (by decide) (by decide) (by decide) (by decide) rfl rfl (fun _ => rfl) rfl ?_
  intro a84 ha84
  refine oW.astore (Ls' := #[.val (.ref a), .val (.ref b), .val (.int (3 : Int32)), .val (.ref a4), .val (.double v69_2), .second, .val (.ref a79), .val (.ref a84), .unset, .unset, .unset, .unset, .unset, .unset, .unset]) (pc' := 88) K d1_86 rfl rfl rfl ?_
  refine oW.iloadN (pc' := 89) K d1_88 rfl rfl ?_
  refine oW.newarr (n := 3) (cells' := 4) (slots' := 12) (dsf := fun z => [(a, .inl (.double, [(.double s0), (.double s1), (.double s2)])), (b, .inl (.double, [(.double p0), (.double p1), (.double p2)])), (a4, .inl (.double, [(.double v61_1), (.double v61), (.double s2)])), (a79, .inl (.int, [(.int (0 : Int32)), (.int (0 : Int32)), (.int (0 : Int32))])), (a84, .inl (.double, [(.double (0 : UInt64)), (.double (0 : UInt64)), (.double (0 : UInt64))])), (z, .inl (.double, [(.double (0 : UInt64)), (.double (0 : UInt64)), (.double (0 : UInt64))]))]) (pc' := 91) K (hw _ (List.mem_of_getElem? (i := 2) rfl)) d1_89 rfl (by decide) (by decide) (by decide) (by decide) rfl rfl (fun _ => rfl) rfl ?_
  intro a89 ha89
  refine oW.astore (Ls' := #[.val (.ref a), .val (.ref b), .val (.int (3 : Int32)), .val (.ref a4), .val (.double v69_2), .second, .val (.ref a79), .val (.ref a84), .val (.ref a89), .unset, .unset, .unset, .unset, .unset, .unset]) (pc' := 93) K d1_91 rfl rfl rfl ?_
  refine oW.iconst (v := (0 : Int32)) (pc' := 94) K d1_93 (by decide) rfl ?_
  refine oW.istore (Ls' := #[.val (.ref a), .val (.ref b), .val (.int (3 : Int32)), .val (.ref a4), .val (.double v69_2), .second, .val (.ref a79), .val (.ref a84), .val (.ref a89), .val (.int (0 : Int32)), .unset, .unset, .unset, .unset, .unset]) (pc' := 96) K d1_94 rfl rfl ?_
  refine oW.iconst (v := (0 : Int32)) (pc' := 97) K d1_96 (by decide) rfl ?_
  refine oW.istore (Ls' := #[.val (.ref a), .val (.ref b), .val (.int (3 : Int32)), .val (.ref a4), .val (.double v69_2), .second, .val (.ref a79), .val (.ref a84), .val (.ref a89), .val (.int (0 : Int32)), .val (.int (0 : Int32)), .unset, .unset, .unset, .unset]) (pc' := 99) K d1_97 rfl rfl ?_
  refine oW.iload (pc' := 101) K d1_99 rfl rfl ?_
  refine oW.iloadN (pc' := 102) K d1_101 rfl rfl ?_
  refine oW.icmp_ge (pc' := 224) (pc3 := 105) K d1_102 (by decide) (by decide) rfl (fun q => absurd q (by decide)) (fun _ => ?_)
  refine oW.aload (pc' := 107) K d1_105 rfl rfl rfl ?_
  refine oW.iload (pc' := 109) K d1_107 rfl rfl ?_
  refine oW.iload (pc' := 111) K d1_109 rfl rfl ?_
  refine oW.iastore (i := 3) (k := 0) (ds' := [(a, .inl (.double, [(.double s0), (.double s1), (.double s2)])), (b, .inl (.double, [(.double p0), (.double p1), (.double p2)])), (a4, .inl (.double, [(.double v61_1), (.double v61), (.double s2)])), (a79, .inl (.int, [(.int (0 : Int32)), (.int (0 : Int32)), (.int (0 : Int32))])), (a84, .inl (.double, [(.double (0 : UInt64)), (.double (0 : UInt64)), (.double (0 : UInt64))])), (a89, .inl (.double, [(.double (0 : UInt64)), (.double (0 : UInt64)), (.double (0 : UInt64))]))]) (pc' := 112) K d1_111 rfl rfl (by decide) (Nat.lt_of_sub_eq_succ rfl) rfl rfl ?_
  refine oW.aload (pc' := 114) K d1_112 rfl rfl rfl ?_
  refine oW.iload (pc' := 116) K d1_114 rfl rfl ?_
  refine oW.aloadN (pc' := 117) K d1_116 rfl rfl rfl ?_
  refine oW.iload (pc' := 119) K d1_117 rfl rfl ?_
  refine oW.daload (i := 1) (k := 0) (pc' := 120) K d1_119 rfl rfl (by decide) rfl rfl ?_
  refine oW.dastore (i := 4) (k := 0) (ds' := [(a, .inl (.double, [(.double s0), (.double s1), (.double s2)])), (b, .inl (.double, [(.double p0), (.double p1), (.double p2)])), (a4, .inl (.double, [(.double v61_1), (.double v61), (.double s2)])), (a79, .inl (.int, [(.int (0 : Int32)), (.int (0 : Int32)), (.int (0 : Int32))])), (a84, .inl (.double, [(.double p0), (.double (0 : UInt64)), (.double (0 : UInt64))])), (a89, .inl (.double, [(.double (0 : UInt64)), (.double (0 : UInt64)), (.double (0 : UInt64))]))]) (pc' := 121) K d1_120 rfl rfl (by decide) (Nat.lt_of_sub_eq_succ rfl) rfl rfl ?_
  refine oW.aload (pc' := 123) K d1_121 rfl rfl rfl ?_
  refine oW.iload (pc' := 125) K d1_123 rfl rfl ?_
  refine oW.aloadN (pc' := 126) K d1_125 rfl rfl rfl ?_
  refine oW.iload (pc' := 128) K d1_126 rfl rfl ?_
  refine oW.daload (i := 1) (k := 0) (pc' := 129) K d1_128 rfl rfl (by decide) rfl rfl ?_
  refine oW.aloadN (pc' := 130) K d1_129 rfl rfl rfl ?_
  refine oW.iload (pc' := 132) K d1_130 rfl rfl ?_
  refine oW.daload (i := 2) (k := 0) (pc' := 133) K d1_132 rfl rfl (by decide) rfl rfl ?_
  obtain ⟨v133, ev133⟩ : ∃ t_ : UInt64, t_ = FP.dmul p0 v61_1 := ⟨_, rfl⟩
  have qv133 : oQ (q0 * R0) 8 v133 := (hp0.mul qv61_1 ev133 (by decide) (by omega)).cast rfl rfl
  refine oW.dmul (pc' := 134) K d1_133 ev133 (qv133.nn) rfl ?_
  refine oW.dastore (i := 5) (k := 0) (ds' := [(a, .inl (.double, [(.double s0), (.double s1), (.double s2)])), (b, .inl (.double, [(.double p0), (.double p1), (.double p2)])), (a4, .inl (.double, [(.double v61_1), (.double v61), (.double s2)])), (a79, .inl (.int, [(.int (0 : Int32)), (.int (0 : Int32)), (.int (0 : Int32))])), (a84, .inl (.double, [(.double p0), (.double (0 : UInt64)), (.double (0 : UInt64))])), (a89, .inl (.double, [(.double v133), (.double (0 : UInt64)), (.double (0 : UInt64))]))]) (pc' := 135) K d1_134 rfl rfl (by decide) (Nat.lt_of_sub_eq_succ rfl) rfl rfl ?_
  refine oW.iinc (v := (1 : Int32)) (Ls' := #[.val (.ref a), .val (.ref b), .val (.int (3 : Int32)), .val (.ref a4), .val (.double v69_2), .second, .val (.ref a79), .val (.ref a84), .val (.ref a89), .val (.int (1 : Int32)), .val (.int (0 : Int32)), .unset, .unset, .unset, .unset]) (pc' := 138) K d1_135 rfl (by decide) rfl rfl ?_
  refine oW.iload (pc' := 140) K d1_138 rfl rfl ?_
  refine oW.iconst (v := (1 : Int32)) (pc' := 141) K d1_140 (by decide) rfl ?_
  refine oW.icmp_le (pc' := 218) (pc3 := 144) K d1_141 (by decide) (by decide) rfl (fun _ => ?_) (fun q => absurd q (by decide))
  refine oW.iinc (v := (1 : Int32)) (Ls' := #[.val (.ref a), .val (.ref b), .val (.int (3 : Int32)), .val (.ref a4), .val (.double v69_2), .second, .val (.ref a79), .val (.ref a84), .val (.ref a89), .val (.int (1 : Int32)), .val (.int (1 : Int32)), .unset, .unset, .unset, .unset]) (pc' := 221) K d1_218 rfl (by decide) rfl rfl ?_
  refine oW.goto (pc' := 99) K d1_221 (by decide) (by decide) ?_
  refine oW.iload (pc' := 101) K d1_99 rfl rfl ?_
  refine oW.iloadN (pc' := 102) K d1_101 rfl rfl ?_
  refine oW.icmp_ge (pc' := 224) (pc3 := 105) K d1_102 (by decide) (by decide) rfl (fun q => absurd q (by decide)) (fun _ => ?_)
  refine oW.aload (pc' := 107) K d1_105 rfl rfl rfl ?_
  refine oW.iload (pc' := 109) K d1_107 rfl rfl ?_
  refine oW.iload (pc' := 111) K d1_109 rfl rfl ?_
  refine oW.iastore (i := 3) (k := 1) (ds' := [(a, .inl (.double, [(.double s0), (.double s1), (.double s2)])), (b, .inl (.double, [(.double p0), (.double p1), (.double p2)])), (a4, .inl (.double, [(.double v61_1), (.double v61), (.double s2)])), (a79, .inl (.int, [(.int (0 : Int32)), (.int (1 : Int32)), (.int (0 : Int32))])), (a84, .inl (.double, [(.double p0), (.double (0 : UInt64)), (.double (0 : UInt64))])), (a89, .inl (.double, [(.double v133), (.double (0 : UInt64)), (.double (0 : UInt64))]))]) (pc' := 112) K d1_111 rfl rfl (by decide) (Nat.lt_of_sub_eq_succ rfl) rfl rfl ?_
  refine oW.aload (pc' := 114) K d1_112 rfl rfl rfl ?_
  refine oW.iload (pc' := 116) K d1_114 rfl rfl ?_
  refine oW.aloadN (pc' := 117) K d1_116 rfl rfl rfl ?_
  refine oW.iload (pc' := 119) K d1_117 rfl rfl ?_
  refine oW.daload (i := 1) (k := 1) (pc' := 120) K d1_119 rfl rfl (by decide) rfl rfl ?_
  refine oW.dastore (i := 4) (k := 1) (ds' := [(a, .inl (.double, [(.double s0), (.double s1), (.double s2)])), (b, .inl (.double, [(.double p0), (.double p1), (.double p2)])), (a4, .inl (.double, [(.double v61_1), (.double v61), (.double s2)])), (a79, .inl (.int, [(.int (0 : Int32)), (.int (1 : Int32)), (.int (0 : Int32))])), (a84, .inl (.double, [(.double p0), (.double p1), (.double (0 : UInt64))])), (a89, .inl (.double, [(.double v133), (.double (0 : UInt64)), (.double (0 : UInt64))]))]) (pc' := 121) K d1_120 rfl rfl (by decide) (Nat.lt_of_sub_eq_succ rfl) rfl rfl ?_
  refine oW.aload (pc' := 123) K d1_121 rfl rfl rfl ?_
  refine oW.iload (pc' := 125) K d1_123 rfl rfl ?_
  refine oW.aloadN (pc' := 126) K d1_125 rfl rfl rfl ?_
  refine oW.iload (pc' := 128) K d1_126 rfl rfl ?_
  refine oW.daload (i := 1) (k := 1) (pc' := 129) K d1_128 rfl rfl (by decide) rfl rfl ?_
  refine oW.aloadN (pc' := 130) K d1_129 rfl rfl rfl ?_
  refine oW.iload (pc' := 132) K d1_130 rfl rfl ?_
  refine oW.daload (i := 2) (k := 1) (pc' := 133) K d1_132 rfl rfl (by decide) rfl rfl ?_
  obtain ⟨v133_1, ev133_1⟩ : ∃ t_ : UInt64, t_ = FP.dmul p1 v61 := ⟨_, rfl⟩
  have qv133_1 : oQ (q1 * R1) 8 v133_1 := (hp1.mul qv61 ev133_1 (by decide) (by omega)).cast rfl rfl
  refine oW.dmul (pc' := 134) K d1_133 ev133_1 (qv133_1.nn) rfl ?_
  refine oW.dastore (i := 5) (k := 1) (ds' := [(a, .inl (.double, [(.double s0), (.double s1), (.double s2)])), (b, .inl (.double, [(.double p0), (.double p1), (.double p2)])), (a4, .inl (.double, [(.double v61_1), (.double v61), (.double s2)])), (a79, .inl (.int, [(.int (0 : Int32)), (.int (1 : Int32)), (.int (0 : Int32))])), (a84, .inl (.double, [(.double p0), (.double p1), (.double (0 : UInt64))])), (a89, .inl (.double, [(.double v133), (.double v133_1), (.double (0 : UInt64))]))]) (pc' := 135) K d1_134 rfl rfl (by decide) (Nat.lt_of_sub_eq_succ rfl) rfl rfl ?_
  refine oW.iinc (v := (2 : Int32)) (Ls' := #[.val (.ref a), .val (.ref b), .val (.int (3 : Int32)), .val (.ref a4), .val (.double v69_2), .second, .val (.ref a79), .val (.ref a84), .val (.ref a89), .val (.int (2 : Int32)), .val (.int (1 : Int32)), .unset, .unset, .unset, .unset]) (pc' := 138) K d1_135 rfl (by decide) rfl rfl ?_
  refine oW.iload (pc' := 140) K d1_138 rfl rfl ?_
  refine oW.iconst (v := (1 : Int32)) (pc' := 141) K d1_140 (by decide) rfl ?_
  refine oW.icmp_le (pc' := 218) (pc3 := 144) K d1_141 (by decide) (by decide) rfl (fun q => absurd q (by decide)) (fun _ => ?_)
  refine oW.aload (pc' := 146) K d1_144 rfl rfl rfl ?_
  refine oW.iload (pc' := 148) K d1_146 rfl rfl ?_
  refine oW.iconst (v := (2 : Int32)) (pc' := 149) K d1_148 (by decide) rfl ?_
  refine oW.isub (v := (0 : Int32)) (pc' := 150) K d1_149 (by decide) rfl ?_
  refine oW.daload (i := 5) (k := 0) (pc' := 151) K d1_150 rfl rfl (by decide) rfl rfl ?_
  refine oW.aload (pc' := 153) K d1_151 rfl rfl rfl ?_
  refine oW.iload (pc' := 155) K d1_153 rfl rfl ?_
  refine oW.iconst (v := (2 : Int32)) (pc' := 156) K d1_155 (by decide) rfl ?_
  refine oW.isub (v := (0 : Int32)) (pc' := 157) K d1_156 (by decide) rfl ?_
  refine oW.daload (i := 4) (k := 0) (pc' := 158) K d1_157 rfl rfl (by decide) rfl rfl ?_
  obtain ⟨v158, ev158⟩ : ∃ t_ : UInt64, t_ = FP.ddiv v133 p0 := ⟨_, rfl⟩
  have qv158 : oQ (R0) 3 v158 := qv133.divx hp0 ev158 _ 3 (by omega) (by decide) (by decide) (by decide) (by omega) oD83
  refine oW.ddiv (pc' := 159) K d1_158 ev158 (qv158.nn) rfl ?_
  refine oW.aload (pc' := 161) K d1_159 rfl rfl rfl ?_
  refine oW.iload (pc' := 163) K d1_161 rfl rfl ?_
  refine oW.iconst (v := (1 : Int32)) (pc' := 164) K d1_163 (by decide) rfl ?_
  refine oW.isub (v := (1 : Int32)) (pc' := 165) K d1_164 (by decide) rfl ?_
  refine oW.daload (i := 5) (k := 1) (pc' := 166) K d1_165 rfl rfl (by decide) rfl rfl ?_
  refine oW.aload (pc' := 168) K d1_166 rfl rfl rfl ?_
  refine oW.iload (pc' := 170) K d1_168 rfl rfl ?_
  refine oW.iconst (v := (1 : Int32)) (pc' := 171) K d1_170 (by decide) rfl ?_
  refine oW.isub (v := (1 : Int32)) (pc' := 172) K d1_171 (by decide) rfl ?_
  refine oW.daload (i := 4) (k := 1) (pc' := 173) K d1_172 rfl rfl (by decide) rfl rfl ?_
  obtain ⟨v173, ev173⟩ : ∃ t_ : UInt64, t_ = FP.ddiv v133_1 p1 := ⟨_, rfl⟩
  have qv173 : oQ (R1) 3 v173 := qv133_1.divx hp1 ev173 _ 3 (by omega) (by decide) (by decide) (by decide) (by omega) oD83
  refine oW.ddiv (pc' := 174) K d1_173 ev173 (qv173.nn) rfl ?_
  obtain ⟨v174, ev174⟩ : ∃ t_ : Int32, t_ = cmpValue (FP.dcmp v158 v173) .l := ⟨_, rfl⟩
  refine oW.dcmp (pc' := 175) K d1_174 ev174 rfl ?_
  refine oW.if_le (pc' := 218) (pc3 := 178) K d1_175 (by decide) (by decide) rfl (fun c175 => ?_) (fun c175 => ?_)
  · rw [(qv158.cmp qv173 ev174).2.2] at c175
    refine oW.iinc (v := (2 : Int32)) (Ls' := #[.val (.ref a), .val (.ref b), .val (.int (3 : Int32)), .val (.ref a4), .val (.double v69_2), .second, .val (.ref a79), .val (.ref a84), .val (.ref a89), .val (.int (2 : Int32)), .val (.int (2 : Int32)), .unset, .unset, .unset, .unset]) (pc' := 221) K d1_218 rfl (by decide) rfl rfl ?_
    refine oW.goto (pc' := 99) K d1_221 (by decide) (by decide) ?_
    refine oW.iload (pc' := 101) K d1_99 rfl rfl ?_
    refine oW.iloadN (pc' := 102) K d1_101 rfl rfl ?_
    refine oW.icmp_ge (pc' := 224) (pc3 := 105) K d1_102 (by decide) (by decide) rfl (fun q => absurd q (by decide)) (fun _ => ?_)
    refine oW.aload (pc' := 107) K d1_105 rfl rfl rfl ?_
    refine oW.iload (pc' := 109) K d1_107 rfl rfl ?_
    refine oW.iload (pc' := 111) K d1_109 rfl rfl ?_
    refine oW.iastore (i := 3) (k := 2) (ds' := [(a, .inl (.double, [(.double s0), (.double s1), (.double s2)])), (b, .inl (.double, [(.double p0), (.double p1), (.double p2)])), (a4, .inl (.double, [(.double v61_1), (.double v61), (.double s2)])), (a79, .inl (.int, [(.int (0 : Int32)), (.int (1 : Int32)), (.int (2 : Int32))])), (a84, .inl (.double, [(.double p0), (.double p1), (.double (0 : UInt64))])), (a89, .inl (.double, [(.double v133), (.double v133_1), (.double (0 : UInt64))]))]) (pc' := 112) K d1_111 rfl rfl (by decide) (Nat.lt_of_sub_eq_succ rfl) rfl rfl ?_
    refine oW.aload (pc' := 114) K d1_112 rfl rfl rfl ?_
    refine oW.iload (pc' := 116) K d1_114 rfl rfl ?_
    refine oW.aloadN (pc' := 117) K d1_116 rfl rfl rfl ?_
    refine oW.iload (pc' := 119) K d1_117 rfl rfl ?_
    refine oW.daload (i := 1) (k := 2) (pc' := 120) K d1_119 rfl rfl (by decide) rfl rfl ?_
    refine oW.dastore (i := 4) (k := 2) (ds' := [(a, .inl (.double, [(.double s0), (.double s1), (.double s2)])), (b, .inl (.double, [(.double p0), (.double p1), (.double p2)])), (a4, .inl (.double, [(.double v61_1), (.double v61), (.double s2)])), (a79, .inl (.int, [(.int (0 : Int32)), (.int (1 : Int32)), (.int (2 : Int32))])), (a84, .inl (.double, [(.double p0), (.double p1), (.double p2)])), (a89, .inl (.double, [(.double v133), (.double v133_1), (.double (0 : UInt64))]))]) (pc' := 121) K d1_120 rfl rfl (by decide) (Nat.lt_of_sub_eq_succ rfl) rfl rfl ?_
    refine oW.aload (pc' := 123) K d1_121 rfl rfl rfl ?_
    refine oW.iload (pc' := 125) K d1_123 rfl rfl ?_
    refine oW.aloadN (pc' := 126) K d1_125 rfl rfl rfl ?_
    refine oW.iload (pc' := 128) K d1_126 rfl rfl ?_
    refine oW.daload (i := 1) (k := 2) (pc' := 129) K d1_128 rfl rfl (by decide) rfl rfl ?_
    refine oW.aloadN (pc' := 130) K d1_129 rfl rfl rfl ?_
    refine oW.iload (pc' := 132) K d1_130 rfl rfl ?_
    refine oW.daload (i := 2) (k := 2) (pc' := 133) K d1_132 rfl rfl (by decide) rfl rfl ?_
    obtain ⟨v133_2, ev133_2⟩ : ∃ t_ : UInt64, t_ = FP.dmul p2 s2 := ⟨_, rfl⟩
    have qv133_2 : oQ (q2 * R2) 8 v133_2 := (hp2.mul (hs2.up 3 rfl (by decide) hR2) ev133_2 (by decide) (by omega)).cast rfl rfl
    refine oW.dmul (pc' := 134) K d1_133 ev133_2 (qv133_2.nn) rfl ?_
    refine oW.dastore (i := 5) (k := 2) (ds' := [(a, .inl (.double, [(.double s0), (.double s1), (.double s2)])), (b, .inl (.double, [(.double p0), (.double p1), (.double p2)])), (a4, .inl (.double, [(.double v61_1), (.double v61), (.double s2)])), (a79, .inl (.int, [(.int (0 : Int32)), (.int (1 : Int32)), (.int (2 : Int32))])), (a84, .inl (.double, [(.double p0), (.double p1), (.double p2)])), (a89, .inl (.double, [(.double v133), (.double v133_1), (.double v133_2)]))]) (pc' := 135) K d1_134 rfl rfl (by decide) (Nat.lt_of_sub_eq_succ rfl) rfl rfl ?_
    refine oW.iinc (v := (3 : Int32)) (Ls' := #[.val (.ref a), .val (.ref b), .val (.int (3 : Int32)), .val (.ref a4), .val (.double v69_2), .second, .val (.ref a79), .val (.ref a84), .val (.ref a89), .val (.int (3 : Int32)), .val (.int (2 : Int32)), .unset, .unset, .unset, .unset]) (pc' := 138) K d1_135 rfl (by decide) rfl rfl ?_
    refine oW.iload (pc' := 140) K d1_138 rfl rfl ?_
    refine oW.iconst (v := (1 : Int32)) (pc' := 141) K d1_140 (by decide) rfl ?_
    refine oW.icmp_le (pc' := 218) (pc3 := 144) K d1_141 (by decide) (by decide) rfl (fun q => absurd q (by decide)) (fun _ => ?_)
    refine oW.aload (pc' := 146) K d1_144 rfl rfl rfl ?_
    refine oW.iload (pc' := 148) K d1_146 rfl rfl ?_
    refine oW.iconst (v := (2 : Int32)) (pc' := 149) K d1_148 (by decide) rfl ?_
    refine oW.isub (v := (1 : Int32)) (pc' := 150) K d1_149 (by decide) rfl ?_
    refine oW.daload (i := 5) (k := 1) (pc' := 151) K d1_150 rfl rfl (by decide) rfl rfl ?_
    refine oW.aload (pc' := 153) K d1_151 rfl rfl rfl ?_
    refine oW.iload (pc' := 155) K d1_153 rfl rfl ?_
    refine oW.iconst (v := (2 : Int32)) (pc' := 156) K d1_155 (by decide) rfl ?_
    refine oW.isub (v := (1 : Int32)) (pc' := 157) K d1_156 (by decide) rfl ?_
    refine oW.daload (i := 4) (k := 1) (pc' := 158) K d1_157 rfl rfl (by decide) rfl rfl ?_
    obtain ⟨v158_1, ev158_1⟩ : ∃ t_ : UInt64, t_ = FP.ddiv v133_1 p1 := ⟨_, rfl⟩
    have qv158_1 : oQ (R1) 3 v158_1 := qv133_1.divx hp1 ev158_1 _ 3 (by omega) (by decide) (by decide) (by decide) (by omega) oD83
    refine oW.ddiv (pc' := 159) K d1_158 ev158_1 (qv158_1.nn) rfl ?_
    refine oW.aload (pc' := 161) K d1_159 rfl rfl rfl ?_
    refine oW.iload (pc' := 163) K d1_161 rfl rfl ?_
    refine oW.iconst (v := (1 : Int32)) (pc' := 164) K d1_163 (by decide) rfl ?_
    refine oW.isub (v := (2 : Int32)) (pc' := 165) K d1_164 (by decide) rfl ?_
    refine oW.daload (i := 5) (k := 2) (pc' := 166) K d1_165 rfl rfl (by decide) rfl rfl ?_
    refine oW.aload (pc' := 168) K d1_166 rfl rfl rfl ?_
    refine oW.iload (pc' := 170) K d1_168 rfl rfl ?_
    refine oW.iconst (v := (1 : Int32)) (pc' := 171) K d1_170 (by decide) rfl ?_
    refine oW.isub (v := (2 : Int32)) (pc' := 172) K d1_171 (by decide) rfl ?_
    refine oW.daload (i := 4) (k := 2) (pc' := 173) K d1_172 rfl rfl (by decide) rfl rfl ?_
    obtain ⟨v173_1, ev173_1⟩ : ∃ t_ : UInt64, t_ = FP.ddiv v133_2 p2 := ⟨_, rfl⟩
    have qv173_1 : oQ (R2) 3 v173_1 := qv133_2.divx hp2 ev173_1 _ 3 (by omega) (by decide) (by decide) (by decide) (by omega) oD83
    refine oW.ddiv (pc' := 174) K d1_173 ev173_1 (qv173_1.nn) rfl ?_
    obtain ⟨v174_1, ev174_1⟩ : ∃ t_ : Int32, t_ = cmpValue (FP.dcmp v158_1 v173_1) .l := ⟨_, rfl⟩
    refine oW.dcmp (pc' := 175) K d1_174 ev174_1 rfl ?_
    refine oW.if_le (pc' := 218) (pc3 := 178) K d1_175 (by decide) (by decide) rfl (fun c175_1 => ?_) (fun q => absurd ((qv158_1.cmp qv173_1 ev174_1).2.2.mp q) (by omega))
    refine oW.iinc (v := (3 : Int32)) (Ls' := #[.val (.ref a), .val (.ref b), .val (.int (3 : Int32)), .val (.ref a4), .val (.double v69_2), .second, .val (.ref a79), .val (.ref a84), .val (.ref a89), .val (.int (3 : Int32)), .val (.int (3 : Int32)), .unset, .unset, .unset, .unset]) (pc' := 221) K d1_218 rfl (by decide) rfl rfl ?_
    refine oW.goto (pc' := 99) K d1_221 (by decide) (by decide) ?_
    refine oW.iload (pc' := 101) K d1_99 rfl rfl ?_
    refine oW.iloadN (pc' := 102) K d1_101 rfl rfl ?_
    refine oW.icmp_ge (pc' := 224) (pc3 := 105) K d1_102 (by decide) (by decide) rfl (fun _ => ?_) (fun q => absurd q (by decide))
    refine oW.iloadN (pc' := 225) K d1_224 rfl rfl ?_
    refine oW.newarr (n := 3) (cells' := 5) (slots' := 15) (dsf := fun z => [(a, .inl (.double, [(.double s0), (.double s1), (.double s2)])), (b, .inl (.double, [(.double p0), (.double p1), (.double p2)])), (a4, .inl (.double, [(.double v61_1), (.double v61), (.double s2)])), (a79, .inl (.int, [(.int (0 : Int32)), (.int (1 : Int32)), (.int (2 : Int32))])), (a84, .inl (.double, [(.double p0), (.double p1), (.double p2)])), (a89, .inl (.double, [(.double v133), (.double v133_1), (.double v133_2)])), (z, .inl (.double, [(.double (0 : UInt64)), (.double (0 : UInt64)), (.double (0 : UInt64))]))]) (pc' := 227) K (hw _ (List.mem_of_getElem? (i := 2) rfl)) d1_225 rfl (by decide) (by decide) (by decide) (by decide) rfl rfl (fun _ => rfl) rfl ?_
    intro a225 ha225
    refine oW.astore (Ls' := #[.val (.ref a), .val (.ref b), .val (.int (3 : Int32)), .val (.ref a4), .val (.double v69_2), .second, .val (.ref a79), .val (.ref a84), .val (.ref a89), .val (.int (3 : Int32)), .val (.ref a225), .unset, .unset, .unset, .unset]) (pc' := 229) K d1_227 rfl rfl rfl ?_
    refine oW.iconst (v := (0 : Int32)) (pc' := 230) K d1_229 (by decide) rfl ?_
    refine oW.istore (Ls' := #[.val (.ref a), .val (.ref b), .val (.int (3 : Int32)), .val (.ref a4), .val (.double v69_2), .second, .val (.ref a79), .val (.ref a84), .val (.ref a89), .val (.int (3 : Int32)), .val (.ref a225), .val (.int (0 : Int32)), .unset, .unset, .unset]) (pc' := 232) K d1_230 rfl rfl ?_
    refine oW.iload (pc' := 234) K d1_232 rfl rfl ?_
    refine oW.iload (pc' := 236) K d1_234 rfl rfl ?_
    refine oW.icmp_ge (pc' := 316) (pc3 := 239) K d1_236 (by decide) (by decide) rfl (fun q => absurd q (by decide)) (fun _ => ?_)
    refine oW.iload (pc' := 241) K d1_239 rfl rfl ?_
    refine oW.iconst (v := (1 : Int32)) (pc' := 242) K d1_241 (by decide) rfl ?_
    refine oW.iadd (v := (1 : Int32)) (pc' := 243) K d1_242 (by decide) rfl ?_
    refine oW.iload (pc' := 245) K d1_243 rfl rfl ?_
    refine oW.icmp_ge (pc' := 258) (pc3 := 248) K d1_245 (by decide) (by decide) rfl (fun q => absurd q (by decide)) (fun _ => ?_)
    refine oW.aload (pc' := 250) K d1_248 rfl rfl rfl ?_
    refine oW.iload (pc' := 252) K d1_250 rfl rfl ?_
    refine oW.iconst (v := (1 : Int32)) (pc' := 253) K d1_252 (by decide) rfl ?_
    refine oW.iadd (v := (1 : Int32)) (pc' := 254) K d1_253 (by decide) rfl ?_
    refine oW.iaload (i := 3) (k := 1) (pc' := 255) K d1_254 rfl rfl (by decide) rfl rfl ?_
    refine oW.goto (pc' := 259) K d1_255 (by decide) (by decide) ?_
    refine oW.istore (Ls' := #[.val (.ref a), .val (.ref b), .val (.int (3 : Int32)), .val (.ref a4), .val (.double v69_2), .second, .val (.ref a79), .val (.ref a84), .val (.ref a89), .val (.int (3 : Int32)), .val (.ref a225), .val (.int (0 : Int32)), .val (.int (1 : Int32)), .unset, .unset]) (pc' := 261) K d1_259 rfl rfl ?_
    refine oW.iload (pc' := 263) K d1_261 rfl rfl ?_
    refine oW.aload (pc' := 265) K d1_263 rfl rfl rfl ?_
    refine oW.iload (pc' := 267) K d1_265 rfl rfl ?_
    refine oW.iaload (i := 3) (k := 0) (pc' := 268) K d1_267 rfl rfl (by decide) rfl rfl ?_
    refine oW.isub (v := (1 : Int32)) (pc' := 269) K d1_268 (by decide) rfl ?_
    refine oW.iconst (v := (1 : Int32)) (pc' := 270) K d1_269 (by decide) rfl ?_
    refine oW.icmp_ne (pc' := 283) (pc3 := 273) K d1_270 (by decide) (by decide) rfl (fun q => absurd q (by decide)) (fun _ => ?_)
    refine oW.aloadN (pc' := 274) K d1_273 rfl rfl rfl ?_
    refine oW.aload (pc' := 276) K d1_274 rfl rfl rfl ?_
    refine oW.iload (pc' := 278) K d1_276 rfl rfl ?_
    refine oW.iaload (i := 3) (k := 0) (pc' := 279) K d1_278 rfl rfl (by decide) rfl rfl ?_
    refine oW.daload (i := 2) (k := 0) (pc' := 280) K d1_279 rfl rfl (by decide) rfl rfl ?_
    refine oW.goto (pc' := 294) K d1_280 (by decide) (by decide) ?_
    refine oW.dstore (Ls' := #[.val (.ref a), .val (.ref b), .val (.int (3 : Int32)), .val (.ref a4), .val (.double v69_2), .second, .val (.ref a79), .val (.ref a84), .val (.ref a89), .val (.int (3 : Int32)), .val (.ref a225), .val (.int (0 : Int32)), .val (.int (1 : Int32)), .val (.double v61_1), .second]) (pc' := 296) K d1_294 rfl rfl ?_
    refine oW.aload (pc' := 298) K d1_296 rfl rfl rfl ?_
    refine oW.aload (pc' := 300) K d1_298 rfl rfl rfl ?_
    refine oW.iload (pc' := 302) K d1_300 rfl rfl ?_
    refine oW.iaload (i := 3) (k := 0) (pc' := 303) K d1_302 rfl rfl (by decide) rfl rfl ?_
    refine oW.iload (pc' := 305) K d1_303 rfl rfl ?_
    refine oW.dload (pc' := 307) K d1_305 rfl rfl ?_
    refine oW.callS0 (argsL := [(.ref a225), (.int (0 : Int32)), (.int (1 : Int32)), (.double v61_1)]) (S := []) (rm := ({ frames := 1, cells := 0, slots := 0, locals := 30 } : Room)) (W := 0) (cells' := 5) (slots' := 15) (pc' := 310) K (hw _ (List.mem_of_getElem? (i := 9) rfl)) (hw _ (List.mem_of_getElem? (i := 10) rfl)) (hw _ (List.mem_of_getElem? (i := 11) rfl)) (hw _ (List.mem_of_getElem? (i := 12) rfl)) (by decide) (own_fill_3_0_1 hw) (lenOf pd_1 rfl) d1_307 rfl rfl (Nat.le_of_eq rfl) (by decide) (by decide) (by decide) (by decide) rfl rfl rfl ?_
    rintro _ rfl
    refine oW.iinc (v := (1 : Int32)) (Ls' := #[.val (.ref a), .val (.ref b), .val (.int (3 : Int32)), .val (.ref a4), .val (.double v69_2), .second, .val (.ref a79), .val (.ref a84), .val (.ref a89), .val (.int (3 : Int32)), .val (.ref a225), .val (.int (1 : Int32)), .val (.int (1 : Int32)), .val (.double v61_1), .second]) (pc' := 313) K d1_310 rfl (by decide) rfl rfl ?_
    refine oW.goto (pc' := 232) K d1_313 (by decide) (by decide) ?_
    refine oW.iload (pc' := 234) K d1_232 rfl rfl ?_
    refine oW.iload (pc' := 236) K d1_234 rfl rfl ?_
    refine oW.icmp_ge (pc' := 316) (pc3 := 239) K d1_236 (by decide) (by decide) rfl (fun q => absurd q (by decide)) (fun _ => ?_)
    refine oW.iload (pc' := 241) K d1_239 rfl rfl ?_
    refine oW.iconst (v := (1 : Int32)) (pc' := 242) K d1_241 (by decide) rfl ?_
    refine oW.iadd (v := (2 : Int32)) (pc' := 243) K d1_242 (by decide) rfl ?_
    refine oW.iload (pc' := 245) K d1_243 rfl rfl ?_
    refine oW.icmp_ge (pc' := 258) (pc3 := 248) K d1_245 (by decide) (by decide) rfl (fun q => absurd q (by decide)) (fun _ => ?_)
    refine oW.aload (pc' := 250) K d1_248 rfl rfl rfl ?_
    refine oW.iload (pc' := 252) K d1_250 rfl rfl ?_
    refine oW.iconst (v := (1 : Int32)) (pc' := 253) K d1_252 (by decide) rfl ?_
    refine oW.iadd (v := (2 : Int32)) (pc' := 254) K d1_253 (by decide) rfl ?_
    refine oW.iaload (i := 3) (k := 2) (pc' := 255) K d1_254 rfl rfl (by decide) rfl rfl ?_
    refine oW.goto (pc' := 259) K d1_255 (by decide) (by decide) ?_
    refine oW.istore (Ls' := #[.val (.ref a), .val (.ref b), .val (.int (3 : Int32)), .val (.ref a4), .val (.double v69_2), .second, .val (.ref a79), .val (.ref a84), .val (.ref a89), .val (.int (3 : Int32)), .val (.ref a225), .val (.int (1 : Int32)), .val (.int (2 : Int32)), .val (.double v61_1), .second]) (pc' := 261) K d1_259 rfl rfl ?_
    refine oW.iload (pc' := 263) K d1_261 rfl rfl ?_
    refine oW.aload (pc' := 265) K d1_263 rfl rfl rfl ?_
    refine oW.iload (pc' := 267) K d1_265 rfl rfl ?_
    refine oW.iaload (i := 3) (k := 1) (pc' := 268) K d1_267 rfl rfl (by decide) rfl rfl ?_
    refine oW.isub (v := (1 : Int32)) (pc' := 269) K d1_268 (by decide) rfl ?_
    refine oW.iconst (v := (1 : Int32)) (pc' := 270) K d1_269 (by decide) rfl ?_
    refine oW.icmp_ne (pc' := 283) (pc3 := 273) K d1_270 (by decide) (by decide) rfl (fun q => absurd q (by decide)) (fun _ => ?_)
    refine oW.aloadN (pc' := 274) K d1_273 rfl rfl rfl ?_
    refine oW.aload (pc' := 276) K d1_274 rfl rfl rfl ?_
    refine oW.iload (pc' := 278) K d1_276 rfl rfl ?_
    refine oW.iaload (i := 3) (k := 1) (pc' := 279) K d1_278 rfl rfl (by decide) rfl rfl ?_
    refine oW.daload (i := 2) (k := 1) (pc' := 280) K d1_279 rfl rfl (by decide) rfl rfl ?_
    refine oW.goto (pc' := 294) K d1_280 (by decide) (by decide) ?_
    refine oW.dstore (Ls' := #[.val (.ref a), .val (.ref b), .val (.int (3 : Int32)), .val (.ref a4), .val (.double v69_2), .second, .val (.ref a79), .val (.ref a84), .val (.ref a89), .val (.int (3 : Int32)), .val (.ref a225), .val (.int (1 : Int32)), .val (.int (2 : Int32)), .val (.double v61), .second]) (pc' := 296) K d1_294 rfl rfl ?_
    refine oW.aload (pc' := 298) K d1_296 rfl rfl rfl ?_
    refine oW.aload (pc' := 300) K d1_298 rfl rfl rfl ?_
    refine oW.iload (pc' := 302) K d1_300 rfl rfl ?_
    refine oW.iaload (i := 3) (k := 1) (pc' := 303) K d1_302 rfl rfl (by decide) rfl rfl ?_
    refine oW.iload (pc' := 305) K d1_303 rfl rfl ?_
    refine oW.dload (pc' := 307) K d1_305 rfl rfl ?_
    refine oW.callS0 (argsL := [(.ref a225), (.int (1 : Int32)), (.int (2 : Int32)), (.double v61)]) (S := []) (rm := ({ frames := 1, cells := 0, slots := 0, locals := 30 } : Room)) (W := 0) (cells' := 5) (slots' := 15) (pc' := 310) K (hw _ (List.mem_of_getElem? (i := 9) rfl)) (hw _ (List.mem_of_getElem? (i := 10) rfl)) (hw _ (List.mem_of_getElem? (i := 11) rfl)) (hw _ (List.mem_of_getElem? (i := 12) rfl)) (by decide) (own_fill_3_1_2 hw) (lenOf pd_1 rfl) d1_307 rfl rfl (Nat.le_of_eq rfl) (by decide) (by decide) (by decide) (by decide) rfl rfl rfl ?_
    rintro _ rfl
    refine oW.iinc (v := (2 : Int32)) (Ls' := #[.val (.ref a), .val (.ref b), .val (.int (3 : Int32)), .val (.ref a4), .val (.double v69_2), .second, .val (.ref a79), .val (.ref a84), .val (.ref a89), .val (.int (3 : Int32)), .val (.ref a225), .val (.int (2 : Int32)), .val (.int (2 : Int32)), .val (.double v61), .second]) (pc' := 313) K d1_310 rfl (by decide) rfl rfl ?_
    refine oW.goto (pc' := 232) K d1_313 (by decide) (by decide) ?_
    refine oW.iload (pc' := 234) K d1_232 rfl rfl ?_
    refine oW.iload (pc' := 236) K d1_234 rfl rfl ?_
    refine oW.icmp_ge (pc' := 316) (pc3 := 239) K d1_236 (by decide) (by decide) rfl (fun q => absurd q (by decide)) (fun _ => ?_)
    refine oW.iload (pc' := 241) K d1_239 rfl rfl ?_
    refine oW.iconst (v := (1 : Int32)) (pc' := 242) K d1_241 (by decide) rfl ?_
    refine oW.iadd (v := (3 : Int32)) (pc' := 243) K d1_242 (by decide) rfl ?_
    refine oW.iload (pc' := 245) K d1_243 rfl rfl ?_
    refine oW.icmp_ge (pc' := 258) (pc3 := 248) K d1_245 (by decide) (by decide) rfl (fun _ => ?_) (fun q => absurd q (by decide))
    refine oW.iloadN (pc' := 259) K d1_258 rfl rfl ?_
    refine oW.istore (Ls' := #[.val (.ref a), .val (.ref b), .val (.int (3 : Int32)), .val (.ref a4), .val (.double v69_2), .second, .val (.ref a79), .val (.ref a84), .val (.ref a89), .val (.int (3 : Int32)), .val (.ref a225), .val (.int (2 : Int32)), .val (.int (3 : Int32)), .val (.double v61), .second]) (pc' := 261) K d1_259 rfl rfl ?_
    refine oW.iload (pc' := 263) K d1_261 rfl rfl ?_
    refine oW.aload (pc' := 265) K d1_263 rfl rfl rfl ?_
    refine oW.iload (pc' := 267) K d1_265 rfl rfl ?_
    refine oW.iaload (i := 3) (k := 2) (pc' := 268) K d1_267 rfl rfl (by decide) rfl rfl ?_
    refine oW.isub (v := (1 : Int32)) (pc' := 269) K d1_268 (by decide) rfl ?_
    refine oW.iconst (v := (1 : Int32)) (pc' := 270) K d1_269 (by decide) rfl ?_
    refine oW.icmp_ne (pc' := 283) (pc3 := 273) K d1_270 (by decide) (by decide) rfl (fun q => absurd q (by decide)) (fun _ => ?_)
    refine oW.aloadN (pc' := 274) K d1_273 rfl rfl rfl ?_
    refine oW.aload (pc' := 276) K d1_274 rfl rfl rfl ?_
    refine oW.iload (pc' := 278) K d1_276 rfl rfl ?_
    refine oW.iaload (i := 3) (k := 2) (pc' := 279) K d1_278 rfl rfl (by decide) rfl rfl ?_
    refine oW.daload (i := 2) (k := 2) (pc' := 280) K d1_279 rfl rfl (by decide) rfl rfl ?_
    refine oW.goto (pc' := 294) K d1_280 (by decide) (by decide) ?_
    refine oW.dstore (Ls' := #[.val (.ref a), .val (.ref b), .val (.int (3 : Int32)), .val (.ref a4), .val (.double v69_2), .second, .val (.ref a79), .val (.ref a84), .val (.ref a89), .val (.int (3 : Int32)), .val (.ref a225), .val (.int (2 : Int32)), .val (.int (3 : Int32)), .val (.double s2), .second]) (pc' := 296) K d1_294 rfl rfl ?_
    refine oW.aload (pc' := 298) K d1_296 rfl rfl rfl ?_
    refine oW.aload (pc' := 300) K d1_298 rfl rfl rfl ?_
    refine oW.iload (pc' := 302) K d1_300 rfl rfl ?_
    refine oW.iaload (i := 3) (k := 2) (pc' := 303) K d1_302 rfl rfl (by decide) rfl rfl ?_
    refine oW.iload (pc' := 305) K d1_303 rfl rfl ?_
    refine oW.dload (pc' := 307) K d1_305 rfl rfl ?_
    refine oW.callS0 (argsL := [(.ref a225), (.int (2 : Int32)), (.int (3 : Int32)), (.double s2)]) (S := []) (rm := ({ frames := 1, cells := 0, slots := 0, locals := 30 } : Room)) (W := 0) (cells' := 5) (slots' := 15) (pc' := 310) K (hw _ (List.mem_of_getElem? (i := 9) rfl)) (hw _ (List.mem_of_getElem? (i := 10) rfl)) (hw _ (List.mem_of_getElem? (i := 11) rfl)) (hw _ (List.mem_of_getElem? (i := 12) rfl)) (by decide) (own_fill_3_2_3 hw) (lenOf pd_1 rfl) d1_307 rfl rfl (Nat.le_of_eq rfl) (by decide) (by decide) (by decide) (by decide) rfl rfl rfl ?_
    rintro _ rfl
    refine oW.iinc (v := (3 : Int32)) (Ls' := #[.val (.ref a), .val (.ref b), .val (.int (3 : Int32)), .val (.ref a4), .val (.double v69_2), .second, .val (.ref a79), .val (.ref a84), .val (.ref a89), .val (.int (3 : Int32)), .val (.ref a225), .val (.int (3 : Int32)), .val (.int (3 : Int32)), .val (.double s2), .second]) (pc' := 313) K d1_310 rfl (by decide) rfl rfl ?_
    refine oW.goto (pc' := 232) K d1_313 (by decide) (by decide) ?_
    refine oW.iload (pc' := 234) K d1_232 rfl rfl ?_
    refine oW.iload (pc' := 236) K d1_234 rfl rfl ?_
    refine oW.icmp_ge (pc' := 316) (pc3 := 239) K d1_236 (by decide) (by decide) rfl (fun _ => ?_) (fun q => absurd q (by decide))
    refine oW.aload (pc' := 318) K d1_316 rfl rfl rfl ?_
    exact oW.retA K rfl rfl rfl d1_318 (by decide) (by decide) ⟨_, rfl, _, _, _, _, _, _, _, _, _, _, _, _, rfl, rfl, ⟨Or.inl ⟨by omega, qv61_1, qv61⟩, (hs2.up 3 rfl (by decide) hR2)⟩⟩
  · rw [(qv158.cmp qv173 ev174).2.2] at c175
    refine oW.aload (pc' := 180) K d1_178 rfl rfl rfl ?_
    refine oW.iload (pc' := 182) K d1_180 rfl rfl ?_
    refine oW.iconst (v := (2 : Int32)) (pc' := 183) K d1_182 (by decide) rfl ?_
    refine oW.isub (v := (0 : Int32)) (pc' := 184) K d1_183 (by decide) rfl ?_
    refine oW.dup2 (pc' := 185) K d1_184 rfl rfl rfl ?_
    refine oW.daload (i := 4) (k := 0) (pc' := 186) K d1_185 rfl rfl (by decide) rfl rfl ?_
    refine oW.aload (pc' := 188) K d1_186 rfl rfl rfl ?_
    refine oW.iload (pc' := 190) K d1_188 rfl rfl ?_
    refine oW.iconst (v := (1 : Int32)) (pc' := 191) K d1_190 (by decide) rfl ?_
    refine oW.isub (v := (1 : Int32)) (pc' := 192) K d1_191 (by decide) rfl ?_
    refine oW.daload (i := 4) (k := 1) (pc' := 193) K d1_192 rfl rfl (by decide) rfl rfl ?_
    obtain ⟨v193, ev193⟩ : ∃ t_ : UInt64, t_ = FP.dadd p0 p1 := ⟨_, rfl⟩
    have qv193 : oQ (q0 + q1) 5 v193 := (hp0.add hp1 ev193 (by decide) (by omega)).cast rfl (by omega)
    refine oW.dadd (pc' := 194) K d1_193 ev193 (qv193.nn) rfl ?_
    refine oW.dastore (i := 4) (k := 0) (ds' := [(a, .inl (.double, [(.double s0), (.double s1), (.double s2)])), (b, .inl (.double, [(.double p0), (.double p1), (.double p2)])), (a4, .inl (.double, [(.double v61_1), (.double v61), (.double s2)])), (a79, .inl (.int, [(.int (0 : Int32)), (.int (1 : Int32)), (.int (0 : Int32))])), (a84, .inl (.double, [(.double v193), (.double p1), (.double (0 : UInt64))])), (a89, .inl (.double, [(.double v133), (.double v133_1), (.double (0 : UInt64))]))]) (pc' := 195) K d1_194 rfl rfl (by decide) (Nat.lt_of_sub_eq_succ rfl) rfl rfl ?_
    refine oW.aload (pc' := 197) K d1_195 rfl rfl rfl ?_
    refine oW.iload (pc' := 199) K d1_197 rfl rfl ?_
    refine oW.iconst (v := (2 : Int32)) (pc' := 200) K d1_199 (by decide) rfl ?_
    refine oW.isub (v := (0 : Int32)) (pc' := 201) K d1_200 (by decide) rfl ?_
    refine oW.dup2 (pc' := 202) K d1_201 rfl rfl rfl ?_
    refine oW.daload (i := 5) (k := 0) (pc' := 203) K d1_202 rfl rfl (by decide) rfl rfl ?_
    refine oW.aload (pc' := 205) K d1_203 rfl rfl rfl ?_
    refine oW.iload (pc' := 207) K d1_205 rfl rfl ?_
    refine oW.iconst (v := (1 : Int32)) (pc' := 208) K d1_207 (by decide) rfl ?_
    refine oW.isub (v := (1 : Int32)) (pc' := 209) K d1_208 (by decide) rfl ?_
    refine oW.daload (i := 5) (k := 1) (pc' := 210) K d1_209 rfl rfl (by decide) rfl rfl ?_
    obtain ⟨v210, ev210⟩ : ∃ t_ : UInt64, t_ = FP.dadd v133 v133_1 := ⟨_, rfl⟩
    have qv210 : oQ (q0 * R0 + q1 * R1) 8 v210 := (qv133.add qv133_1 ev210 (by decide) (by omega)).cast rfl (by omega)
    refine oW.dadd (pc' := 211) K d1_210 ev210 (qv210.nn) rfl ?_
    refine oW.dastore (i := 5) (k := 0) (ds' := [(a, .inl (.double, [(.double s0), (.double s1), (.double s2)])), (b, .inl (.double, [(.double p0), (.double p1), (.double p2)])), (a4, .inl (.double, [(.double v61_1), (.double v61), (.double s2)])), (a79, .inl (.int, [(.int (0 : Int32)), (.int (1 : Int32)), (.int (0 : Int32))])), (a84, .inl (.double, [(.double v193), (.double p1), (.double (0 : UInt64))])), (a89, .inl (.double, [(.double v210), (.double v133_1), (.double (0 : UInt64))]))]) (pc' := 212) K d1_211 rfl rfl (by decide) (Nat.lt_of_sub_eq_succ rfl) rfl rfl ?_
    refine oW.iinc (v := (1 : Int32)) (Ls' := #[.val (.ref a), .val (.ref b), .val (.int (3 : Int32)), .val (.ref a4), .val (.double v69_2), .second, .val (.ref a79), .val (.ref a84), .val (.ref a89), .val (.int (1 : Int32)), .val (.int (1 : Int32)), .unset, .unset, .unset, .unset]) (pc' := 215) K d1_212 rfl (by decide) rfl rfl ?_
    refine oW.goto (pc' := 138) K d1_215 (by decide) (by decide) ?_
    refine oW.iload (pc' := 140) K d1_138 rfl rfl ?_
    refine oW.iconst (v := (1 : Int32)) (pc' := 141) K d1_140 (by decide) rfl ?_
    refine oW.icmp_le (pc' := 218) (pc3 := 144) K d1_141 (by decide) (by decide) rfl (fun _ => ?_) (fun q => absurd q (by decide))
    refine oW.iinc (v := (2 : Int32)) (Ls' := #[.val (.ref a), .val (.ref b), .val (.int (3 : Int32)), .val (.ref a4), .val (.double v69_2), .second, .val (.ref a79), .val (.ref a84), .val (.ref a89), .val (.int (1 : Int32)), .val (.int (2 : Int32)), .unset, .unset, .unset, .unset]) (pc' := 221) K d1_218 rfl (by decide) rfl rfl ?_
    refine oW.goto (pc' := 99) K d1_221 (by decide) (by decide) ?_
    refine oW.iload (pc' := 101) K d1_99 rfl rfl ?_
    refine oW.iloadN (pc' := 102) K d1_101 rfl rfl ?_
    refine oW.icmp_ge (pc' := 224) (pc3 := 105) K d1_102 (by decide) (by decide) rfl (fun q => absurd q (by decide)) (fun _ => ?_)
    refine oW.aload (pc' := 107) K d1_105 rfl rfl rfl ?_
    refine oW.iload (pc' := 109) K d1_107 rfl rfl ?_
    refine oW.iload (pc' := 111) K d1_109 rfl rfl ?_
    refine oW.iastore (i := 3) (k := 1) (ds' := [(a, .inl (.double, [(.double s0), (.double s1), (.double s2)])), (b, .inl (.double, [(.double p0), (.double p1), (.double p2)])), (a4, .inl (.double, [(.double v61_1), (.double v61), (.double s2)])), (a79, .inl (.int, [(.int (0 : Int32)), (.int (2 : Int32)), (.int (0 : Int32))])), (a84, .inl (.double, [(.double v193), (.double p1), (.double (0 : UInt64))])), (a89, .inl (.double, [(.double v210), (.double v133_1), (.double (0 : UInt64))]))]) (pc' := 112) K d1_111 rfl rfl (by decide) (Nat.lt_of_sub_eq_succ rfl) rfl rfl ?_
    refine oW.aload (pc' := 114) K d1_112 rfl rfl rfl ?_
    refine oW.iload (pc' := 116) K d1_114 rfl rfl ?_
    refine oW.aloadN (pc' := 117) K d1_116 rfl rfl rfl ?_
    refine oW.iload (pc' := 119) K d1_117 rfl rfl ?_
    refine oW.daload (i := 1) (k := 2) (pc' := 120) K d1_119 rfl rfl (by decide) rfl rfl ?_
    refine oW.dastore (i := 4) (k := 1) (ds' := [(a, .inl (.double, [(.double s0), (.double s1), (.double s2)])), (b, .inl (.double, [(.double p0), (.double p1), (.double p2)])), (a4, .inl (.double, [(.double v61_1), (.double v61), (.double s2)])), (a79, .inl (.int, [(.int (0 : Int32)), (.int (2 : Int32)), (.int (0 : Int32))])), (a84, .inl (.double, [(.double v193), (.double p2), (.double (0 : UInt64))])), (a89, .inl (.double, [(.double v210), (.double v133_1), (.double (0 : UInt64))]))]) (pc' := 121) K d1_120 rfl rfl (by decide) (Nat.lt_of_sub_eq_succ rfl) rfl rfl ?_
    refine oW.aload (pc' := 123) K d1_121 rfl rfl rfl ?_
    refine oW.iload (pc' := 125) K d1_123 rfl rfl ?_
    refine oW.aloadN (pc' := 126) K d1_125 rfl rfl rfl ?_
    refine oW.iload (pc' := 128) K d1_126 rfl rfl ?_
    refine oW.daload (i := 1) (k := 2) (pc' := 129) K d1_128 rfl rfl (by decide) rfl rfl ?_
    refine oW.aloadN (pc' := 130) K d1_129 rfl rfl rfl ?_
    refine oW.iload (pc' := 132) K d1_130 rfl rfl ?_
    refine oW.daload (i := 2) (k := 2) (pc' := 133) K d1_132 rfl rfl (by decide) rfl rfl ?_
    obtain ⟨v133_2, ev133_2⟩ : ∃ t_ : UInt64, t_ = FP.dmul p2 s2 := ⟨_, rfl⟩
    have qv133_2 : oQ (q2 * R2) 8 v133_2 := (hp2.mul (hs2.up 3 rfl (by decide) hR2) ev133_2 (by decide) (by omega)).cast rfl rfl
    refine oW.dmul (pc' := 134) K d1_133 ev133_2 (qv133_2.nn) rfl ?_
    refine oW.dastore (i := 5) (k := 1) (ds' := [(a, .inl (.double, [(.double s0), (.double s1), (.double s2)])), (b, .inl (.double, [(.double p0), (.double p1), (.double p2)])), (a4, .inl (.double, [(.double v61_1), (.double v61), (.double s2)])), (a79, .inl (.int, [(.int (0 : Int32)), (.int (2 : Int32)), (.int (0 : Int32))])), (a84, .inl (.double, [(.double v193), (.double p2), (.double (0 : UInt64))])), (a89, .inl (.double, [(.double v210), (.double v133_2), (.double (0 : UInt64))]))]) (pc' := 135) K d1_134 rfl rfl (by decide) (Nat.lt_of_sub_eq_succ rfl) rfl rfl ?_
    refine oW.iinc (v := (2 : Int32)) (Ls' := #[.val (.ref a), .val (.ref b), .val (.int (3 : Int32)), .val (.ref a4), .val (.double v69_2), .second, .val (.ref a79), .val (.ref a84), .val (.ref a89), .val (.int (2 : Int32)), .val (.int (2 : Int32)), .unset, .unset, .unset, .unset]) (pc' := 138) K d1_135 rfl (by decide) rfl rfl ?_
    refine oW.iload (pc' := 140) K d1_138 rfl rfl ?_
    refine oW.iconst (v := (1 : Int32)) (pc' := 141) K d1_140 (by decide) rfl ?_
    refine oW.icmp_le (pc' := 218) (pc3 := 144) K d1_141 (by decide) (by decide) rfl (fun q => absurd q (by decide)) (fun _ => ?_)
    refine oW.aload (pc' := 146) K d1_144 rfl rfl rfl ?_
    refine oW.iload (pc' := 148) K d1_146 rfl rfl ?_
    refine oW.iconst (v := (2 : Int32)) (pc' := 149) K d1_148 (by decide) rfl ?_
    refine oW.isub (v := (0 : Int32)) (pc' := 150) K d1_149 (by decide) rfl ?_
    refine oW.daload (i := 5) (k := 0) (pc' := 151) K d1_150 rfl rfl (by decide) rfl rfl ?_
    refine oW.aload (pc' := 153) K d1_151 rfl rfl rfl ?_
    refine oW.iload (pc' := 155) K d1_153 rfl rfl ?_
    refine oW.iconst (v := (2 : Int32)) (pc' := 156) K d1_155 (by decide) rfl ?_
    refine oW.isub (v := (0 : Int32)) (pc' := 157) K d1_156 (by decide) rfl ?_
    refine oW.daload (i := 4) (k := 0) (pc' := 158) K d1_157 rfl rfl (by decide) rfl rfl ?_
    obtain ⟨v158_1, ev158_1⟩ : ∃ t_ : UInt64, t_ = FP.ddiv v210 v193 := ⟨_, rfl⟩
    refine oW.ddiv (pc' := 159) K d1_158 ev158_1 (qv210.divnn qv193 ev158_1 (by omega) (by decide) (by decide)) rfl ?_
    refine oW.aload (pc' := 161) K d1_159 rfl rfl rfl ?_
    refine oW.iload (pc' := 163) K d1_161 rfl rfl ?_
    refine oW.iconst (v := (1 : Int32)) (pc' := 164) K d1_163 (by decide) rfl ?_
    refine oW.isub (v := (1 : Int32)) (pc' := 165) K d1_164 (by decide) rfl ?_
    refine oW.daload (i := 5) (k := 1) (pc' := 166) K d1_165 rfl rfl (by decide) rfl rfl ?_
    refine oW.aload (pc' := 168) K d1_166 rfl rfl rfl ?_
    refine oW.iload (pc' := 170) K d1_168 rfl rfl ?_
    refine oW.iconst (v := (1 : Int32)) (pc' := 171) K d1_170 (by decide) rfl ?_
    refine oW.isub (v := (1 : Int32)) (pc' := 172) K d1_171 (by decide) rfl ?_
    refine oW.daload (i := 4) (k := 1) (pc' := 173) K d1_172 rfl rfl (by decide) rfl rfl ?_
    obtain ⟨v173_1, ev173_1⟩ : ∃ t_ : UInt64, t_ = FP.ddiv v133_2 p2 := ⟨_, rfl⟩
    have qv173_1 : oQ (R2) 3 v173_1 := qv133_2.divx hp2 ev173_1 _ 3 (by omega) (by decide) (by decide) (by decide) (by omega) oD83
    refine oW.ddiv (pc' := 174) K d1_173 ev173_1 (qv173_1.nn) rfl ?_
    obtain ⟨v174_1, ev174_1⟩ : ∃ t_ : Int32, t_ = cmpValue (FP.dcmp v158_1 v173_1) .l := ⟨_, rfl⟩
    refine oW.dcmp (pc' := 175) K d1_174 ev174_1 rfl ?_
    refine oW.if_le (pc' := 218) (pc3 := 178) K d1_175 (by decide) (by decide) rfl (fun c175_1 => ?_) (fun q => absurd ((qv210.quoL qv193 ev158_1 qv173_1 (by omega) (by omega) ev174_1).2.2.mp q) (by have hav := oAvg2 (q0 := q0) (q1 := q1) (by omega) (by omega) hm0 hm1; omega))
    refine oW.iinc (v := (3 : Int32)) (Ls' := #[.val (.ref a), .val (.ref b), .val (.int (3 : Int32)), .val (.ref a4), .val (.double v69_2), .second, .val (.ref a79), .val (.ref a84), .val (.ref a89), .val (.int (2 : Int32)), .val (.int (3 : Int32)), .unset, .unset, .unset, .unset]) (pc' := 221) K d1_218 rfl (by decide) rfl rfl ?_
    refine oW.goto (pc' := 99) K d1_221 (by decide) (by decide) ?_
    refine oW.iload (pc' := 101) K d1_99 rfl rfl ?_
    refine oW.iloadN (pc' := 102) K d1_101 rfl rfl ?_
    refine oW.icmp_ge (pc' := 224) (pc3 := 105) K d1_102 (by decide) (by decide) rfl (fun _ => ?_) (fun q => absurd q (by decide))
    refine oW.iloadN (pc' := 225) K d1_224 rfl rfl ?_
    refine oW.newarr (n := 3) (cells' := 5) (slots' := 15) (dsf := fun z => [(a, .inl (.double, [(.double s0), (.double s1), (.double s2)])), (b, .inl (.double, [(.double p0), (.double p1), (.double p2)])), (a4, .inl (.double, [(.double v61_1), (.double v61), (.double s2)])), (a79, .inl (.int, [(.int (0 : Int32)), (.int (2 : Int32)), (.int (0 : Int32))])), (a84, .inl (.double, [(.double v193), (.double p2), (.double (0 : UInt64))])), (a89, .inl (.double, [(.double v210), (.double v133_2), (.double (0 : UInt64))])), (z, .inl (.double, [(.double (0 : UInt64)), (.double (0 : UInt64)), (.double (0 : UInt64))]))]) (pc' := 227) K (hw _ (List.mem_of_getElem? (i := 2) rfl)) d1_225 rfl (by decide) (by decide) (by decide) (by decide) rfl rfl (fun _ => rfl) rfl ?_
    intro a225 ha225
    refine oW.astore (Ls' := #[.val (.ref a), .val (.ref b), .val (.int (3 : Int32)), .val (.ref a4), .val (.double v69_2), .second, .val (.ref a79), .val (.ref a84), .val (.ref a89), .val (.int (2 : Int32)), .val (.ref a225), .unset, .unset, .unset, .unset]) (pc' := 229) K d1_227 rfl rfl rfl ?_
    refine oW.iconst (v := (0 : Int32)) (pc' := 230) K d1_229 (by decide) rfl ?_
    refine oW.istore (Ls' := #[.val (.ref a), .val (.ref b), .val (.int (3 : Int32)), .val (.ref a4), .val (.double v69_2), .second, .val (.ref a79), .val (.ref a84), .val (.ref a89), .val (.int (2 : Int32)), .val (.ref a225), .val (.int (0 : Int32)), .unset, .unset, .unset]) (pc' := 232) K d1_230 rfl rfl ?_
    refine oW.iload (pc' := 234) K d1_232 rfl rfl ?_
    refine oW.iload (pc' := 236) K d1_234 rfl rfl ?_
    refine oW.icmp_ge (pc' := 316) (pc3 := 239) K d1_236 (by decide) (by decide) rfl (fun q => absurd q (by decide)) (fun _ => ?_)
    refine oW.iload (pc' := 241) K d1_239 rfl rfl ?_
    refine oW.iconst (v := (1 : Int32)) (pc' := 242) K d1_241 (by decide) rfl ?_
    refine oW.iadd (v := (1 : Int32)) (pc' := 243) K d1_242 (by decide) rfl ?_
    refine oW.iload (pc' := 245) K d1_243 rfl rfl ?_
    refine oW.icmp_ge (pc' := 258) (pc3 := 248) K d1_245 (by decide) (by decide) rfl (fun q => absurd q (by decide)) (fun _ => ?_)
    refine oW.aload (pc' := 250) K d1_248 rfl rfl rfl ?_
    refine oW.iload (pc' := 252) K d1_250 rfl rfl ?_
    refine oW.iconst (v := (1 : Int32)) (pc' := 253) K d1_252 (by decide) rfl ?_
    refine oW.iadd (v := (1 : Int32)) (pc' := 254) K d1_253 (by decide) rfl ?_
    refine oW.iaload (i := 3) (k := 1) (pc' := 255) K d1_254 rfl rfl (by decide) rfl rfl ?_
    refine oW.goto (pc' := 259) K d1_255 (by decide) (by decide) ?_
    refine oW.istore (Ls' := #[.val (.ref a), .val (.ref b), .val (.int (3 : Int32)), .val (.ref a4), .val (.double v69_2), .second, .val (.ref a79), .val (.ref a84), .val (.ref a89), .val (.int (2 : Int32)), .val (.ref a225), .val (.int (0 : Int32)), .val (.int (2 : Int32)), .unset, .unset]) (pc' := 261) K d1_259 rfl rfl ?_
    refine oW.iload (pc' := 263) K d1_261 rfl rfl ?_
    refine oW.aload (pc' := 265) K d1_263 rfl rfl rfl ?_
    refine oW.iload (pc' := 267) K d1_265 rfl rfl ?_
    refine oW.iaload (i := 3) (k := 0) (pc' := 268) K d1_267 rfl rfl (by decide) rfl rfl ?_
    refine oW.isub (v := (2 : Int32)) (pc' := 269) K d1_268 (by decide) rfl ?_
    refine oW.iconst (v := (1 : Int32)) (pc' := 270) K d1_269 (by decide) rfl ?_
    refine oW.icmp_ne (pc' := 283) (pc3 := 273) K d1_270 (by decide) (by decide) rfl (fun _ => ?_) (fun q => absurd q (by decide))
    refine oW.aload (pc' := 285) K d1_283 rfl rfl rfl ?_
    refine oW.iload (pc' := 287) K d1_285 rfl rfl ?_
    refine oW.daload (i := 5) (k := 0) (pc' := 288) K d1_287 rfl rfl (by decide) rfl rfl ?_
    refine oW.aload (pc' := 290) K d1_288 rfl rfl rfl ?_
    refine oW.iload (pc' := 292) K d1_290 rfl rfl ?_
    refine oW.daload (i := 4) (k := 0) (pc' := 293) K d1_292 rfl rfl (by decide) rfl rfl ?_
    obtain ⟨v293, ev293⟩ : ∃ t_ : UInt64, t_ = FP.ddiv v210 v193 := ⟨_, rfl⟩
    refine oW.ddiv (pc' := 294) K d1_293 ev293 (qv210.divnn qv193 ev293 (by omega) (by decide) (by decide)) rfl ?_
    refine oW.dstore (Ls' := #[.val (.ref a), .val (.ref b), .val (.int (3 : Int32)), .val (.ref a4), .val (.double v69_2), .second, .val (.ref a79), .val (.ref a84), .val (.ref a89), .val (.int (2 : Int32)), .val (.ref a225), .val (.int (0 : Int32)), .val (.int (2 : Int32)), .val (.double v293), .second]) (pc' := 296) K d1_294 rfl rfl ?_
    refine oW.aload (pc' := 298) K d1_296 rfl rfl rfl ?_
    refine oW.aload (pc' := 300) K d1_298 rfl rfl rfl ?_
    refine oW.iload (pc' := 302) K d1_300 rfl rfl ?_
    refine oW.iaload (i := 3) (k := 0) (pc' := 303) K d1_302 rfl rfl (by decide) rfl rfl ?_
    refine oW.iload (pc' := 305) K d1_303 rfl rfl ?_
    refine oW.dload (pc' := 307) K d1_305 rfl rfl ?_
    refine oW.callS0 (argsL := [(.ref a225), (.int (0 : Int32)), (.int (2 : Int32)), (.double v293)]) (S := []) (rm := ({ frames := 1, cells := 0, slots := 0, locals := 30 } : Room)) (W := 0) (cells' := 5) (slots' := 15) (pc' := 310) K (hw _ (List.mem_of_getElem? (i := 9) rfl)) (hw _ (List.mem_of_getElem? (i := 10) rfl)) (hw _ (List.mem_of_getElem? (i := 11) rfl)) (hw _ (List.mem_of_getElem? (i := 12) rfl)) (by decide) (own_fill_3_0_2 hw) (lenOf pd_1 rfl) d1_307 rfl rfl (Nat.le_of_eq rfl) (by decide) (by decide) (by decide) (by decide) rfl rfl rfl ?_
    rintro _ rfl
    refine oW.iinc (v := (1 : Int32)) (Ls' := #[.val (.ref a), .val (.ref b), .val (.int (3 : Int32)), .val (.ref a4), .val (.double v69_2), .second, .val (.ref a79), .val (.ref a84), .val (.ref a89), .val (.int (2 : Int32)), .val (.ref a225), .val (.int (1 : Int32)), .val (.int (2 : Int32)), .val (.double v293), .second]) (pc' := 313) K d1_310 rfl (by decide) rfl rfl ?_
    refine oW.goto (pc' := 232) K d1_313 (by decide) (by decide) ?_
    refine oW.iload (pc' := 234) K d1_232 rfl rfl ?_
    refine oW.iload (pc' := 236) K d1_234 rfl rfl ?_
    refine oW.icmp_ge (pc' := 316) (pc3 := 239) K d1_236 (by decide) (by decide) rfl (fun q => absurd q (by decide)) (fun _ => ?_)
    refine oW.iload (pc' := 241) K d1_239 rfl rfl ?_
    refine oW.iconst (v := (1 : Int32)) (pc' := 242) K d1_241 (by decide) rfl ?_
    refine oW.iadd (v := (2 : Int32)) (pc' := 243) K d1_242 (by decide) rfl ?_
    refine oW.iload (pc' := 245) K d1_243 rfl rfl ?_
    refine oW.icmp_ge (pc' := 258) (pc3 := 248) K d1_245 (by decide) (by decide) rfl (fun _ => ?_) (fun q => absurd q (by decide))
    refine oW.iloadN (pc' := 259) K d1_258 rfl rfl ?_
    refine oW.istore (Ls' := #[.val (.ref a), .val (.ref b), .val (.int (3 : Int32)), .val (.ref a4), .val (.double v69_2), .second, .val (.ref a79), .val (.ref a84), .val (.ref a89), .val (.int (2 : Int32)), .val (.ref a225), .val (.int (1 : Int32)), .val (.int (3 : Int32)), .val (.double v293), .second]) (pc' := 261) K d1_259 rfl rfl ?_
    refine oW.iload (pc' := 263) K d1_261 rfl rfl ?_
    refine oW.aload (pc' := 265) K d1_263 rfl rfl rfl ?_
    refine oW.iload (pc' := 267) K d1_265 rfl rfl ?_
    refine oW.iaload (i := 3) (k := 1) (pc' := 268) K d1_267 rfl rfl (by decide) rfl rfl ?_
    refine oW.isub (v := (1 : Int32)) (pc' := 269) K d1_268 (by decide) rfl ?_
    refine oW.iconst (v := (1 : Int32)) (pc' := 270) K d1_269 (by decide) rfl ?_
    refine oW.icmp_ne (pc' := 283) (pc3 := 273) K d1_270 (by decide) (by decide) rfl (fun q => absurd q (by decide)) (fun _ => ?_)
    refine oW.aloadN (pc' := 274) K d1_273 rfl rfl rfl ?_
    refine oW.aload (pc' := 276) K d1_274 rfl rfl rfl ?_
    refine oW.iload (pc' := 278) K d1_276 rfl rfl ?_
    refine oW.iaload (i := 3) (k := 1) (pc' := 279) K d1_278 rfl rfl (by decide) rfl rfl ?_
    refine oW.daload (i := 2) (k := 2) (pc' := 280) K d1_279 rfl rfl (by decide) rfl rfl ?_
    refine oW.goto (pc' := 294) K d1_280 (by decide) (by decide) ?_
    refine oW.dstore (Ls' := #[.val (.ref a), .val (.ref b), .val (.int (3 : Int32)), .val (.ref a4), .val (.double v69_2), .second, .val (.ref a79), .val (.ref a84), .val (.ref a89), .val (.int (2 : Int32)), .val (.ref a225), .val (.int (1 : Int32)), .val (.int (3 : Int32)), .val (.double s2), .second]) (pc' := 296) K d1_294 rfl rfl ?_
    refine oW.aload (pc' := 298) K d1_296 rfl rfl rfl ?_
    refine oW.aload (pc' := 300) K d1_298 rfl rfl rfl ?_
    refine oW.iload (pc' := 302) K d1_300 rfl rfl ?_
    refine oW.iaload (i := 3) (k := 1) (pc' := 303) K d1_302 rfl rfl (by decide) rfl rfl ?_
    refine oW.iload (pc' := 305) K d1_303 rfl rfl ?_
    refine oW.dload (pc' := 307) K d1_305 rfl rfl ?_
    refine oW.callS0 (argsL := [(.ref a225), (.int (2 : Int32)), (.int (3 : Int32)), (.double s2)]) (S := []) (rm := ({ frames := 1, cells := 0, slots := 0, locals := 30 } : Room)) (W := 0) (cells' := 5) (slots' := 15) (pc' := 310) K (hw _ (List.mem_of_getElem? (i := 9) rfl)) (hw _ (List.mem_of_getElem? (i := 10) rfl)) (hw _ (List.mem_of_getElem? (i := 11) rfl)) (hw _ (List.mem_of_getElem? (i := 12) rfl)) (by decide) (own_fill_3_2_3 hw) (lenOf pd_1 rfl) d1_307 rfl rfl (Nat.le_of_eq rfl) (by decide) (by decide) (by decide) (by decide) rfl rfl rfl ?_
    rintro _ rfl
    refine oW.iinc (v := (2 : Int32)) (Ls' := #[.val (.ref a), .val (.ref b), .val (.int (3 : Int32)), .val (.ref a4), .val (.double v69_2), .second, .val (.ref a79), .val (.ref a84), .val (.ref a89), .val (.int (2 : Int32)), .val (.ref a225), .val (.int (2 : Int32)), .val (.int (3 : Int32)), .val (.double s2), .second]) (pc' := 313) K d1_310 rfl (by decide) rfl rfl ?_
    refine oW.goto (pc' := 232) K d1_313 (by decide) (by decide) ?_
    refine oW.iload (pc' := 234) K d1_232 rfl rfl ?_
    refine oW.iload (pc' := 236) K d1_234 rfl rfl ?_
    refine oW.icmp_ge (pc' := 316) (pc3 := 239) K d1_236 (by decide) (by decide) rfl (fun _ => ?_) (fun q => absurd q (by decide))
    refine oW.aload (pc' := 318) K d1_316 rfl rfl rfl ?_
    exact oW.retA K rfl rfl rfl d1_318 (by decide) (by decide) ⟨_, rfl, _, _, _, _, _, _, _, _, _, _, _, _, rfl, rfl, ⟨Or.inr ⟨by omega, ⟨_, _, ev293, qv210, qv193⟩, rfl⟩, (hs2.up 3 rfl (by decide) hR2)⟩⟩
set_option maxRecDepth 65536 in
set_option maxHeartbeats 40000000 in
theorem own_fill_4_0_1 {l : Launch} {Z : State} {a0 : Array Value} {h0 : Heap} (hw : ∀ d ∈ tables_1, d.before a0 Z = true) {a0_ a1 a2 a3 a4 a5 a6 : Addr} {l0 l1 l2 l3 l4 l5 : List Value} {xv e0 e1 e2 e3 : UInt64} :
    oCtr l Z h0 [] (⟨"java/util/Arrays", "fill", "([DIID)V"⟩ : MethodName) jdk_65_method_114_code 6 none ({ frames := 1, cells := 0, slots := 0, locals := 30 } : Room) #[(.ref a6), (.int (0 : Int32)), (.int (1 : Int32)), (.double xv)] [(a0_, .inl (.double, l0)), (a1, .inl (.double, l1)), (a2, .inl (.double, l2)), (a3, .inl (.int, l3)), (a4, .inl (.double, l4)), (a5, .inl (.double, l5)), (a6, .inl (.double, [(.double e0), (.double e1), (.double e2), (.double e3)]))] (oVoid fun d => d = [(a0_, .inl (.double, l0)), (a1, .inl (.double, l1)), (a2, .inl (.double, l2)), (a3, .inl (.int, l3)), (a4, .inl (.double, l4)), (a5, .inl (.double, l5)), (a6, .inl (.double, [(.double xv), (.double e1), (.double e2), (.double e3)]))]) := by
  refine oCtr.of (Ls := #[.val (.ref a6), .val (.int (0 : Int32)), .val (.int (1 : Int32)), .val (.double xv), .second, .unset]) (plainFor_of_name (by first | (simp [plainName, overriddenIn]; done) | decide +kernel)) (fun m => by first | (simp [entryFrame, mkF, argsToLocals, Value.category]; done) | rfl) ?_
  intro p e s m below meth c K
  refine oW.aloadN (pc' := 1) K d2_0 rfl rfl rfl ?_
  refine oW.alen (i := 6) (v := (4 : Int32)) (pc' := 2) K d2_1 rfl rfl rfl ?_
  refine oW.iloadN (pc' := 3) K d2_2 rfl rfl ?_
  refine oW.iloadN (pc' := 4) K d2_3 rfl rfl ?_
  refine oW.callS0 (argsL := [(.int (4 : Int32)), (.int (0 : Int32)), (.int (1 : Int32))]) (S := []) (rm := ({ frames := 0, cells := 0, slots := 0, locals := 0 } : Room)) (W := 0) (cells' := 0) (slots' := 0) (pc' := 7) K (hw _ (List.mem_of_getElem? (i := 13) rfl)) (hw _ (List.mem_of_getElem? (i := 14) rfl)) (hw _ (List.mem_of_getElem? (i := 11) rfl)) (hw _ (List.mem_of_getElem? (i := 15) rfl)) (by decide) (own_rc hw (by decide) (by decide) (by decide)) (lenOf pd_0 rfl) d2_4 rfl rfl (Nat.le_of_eq rfl) (by decide) (by decide) (by decide) (by decide) rfl rfl rfl ?_
  rintro _ rfl
  refine oW.iloadN (pc' := 8) K d2_7 rfl rfl ?_
  refine oW.istore (Ls' := #[.val (.ref a6), .val (.int (0 : Int32)), .val (.int (1 : Int32)), .val (.double xv), .second, .val (.int (0 : Int32))]) (pc' := 10) K d2_8 rfl rfl ?_
  refine oW.iload (pc' := 12) K d2_10 rfl rfl ?_
  refine oW.iloadN (pc' := 13) K d2_12 rfl rfl ?_
  refine oW.icmp_ge (pc' := 27) (pc3 := 16) K d2_13 (by decide) (by decide) rfl (fun q => absurd q (by decide)) (fun _ => ?_)
  refine oW.aloadN (pc' := 17) K d2_16 rfl rfl rfl ?_
  refine oW.iload (pc' := 19) K d2_17 rfl rfl ?_
  refine oW.dloadN (pc' := 20) K d2_19 rfl rfl ?_
  refine oW.dastore (i := 6) (k := 0) (ds' := [(a0_, .inl (.double, l0)), (a1, .inl (.double, l1)), (a2, .inl (.double, l2)), (a3, .inl (.int, l3)), (a4, .inl (.double, l4)), (a5, .inl (.double, l5)), (a6, .inl (.double, [(.double xv), (.double e1), (.double e2), (.double e3)]))]) (pc' := 21) K d2_20 rfl rfl (by decide) (Nat.lt_of_sub_eq_succ rfl) rfl rfl ?_
  refine oW.iinc (v := (1 : Int32)) (Ls' := #[.val (.ref a6), .val (.int (0 : Int32)), .val (.int (1 : Int32)), .val (.double xv), .second, .val (.int (1 : Int32))]) (pc' := 24) K d2_21 rfl (by decide) rfl rfl ?_
  refine oW.goto (pc' := 10) K d2_24 (by decide) (by decide) ?_
  refine oW.iload (pc' := 12) K d2_10 rfl rfl ?_
  refine oW.iloadN (pc' := 13) K d2_12 rfl rfl ?_
  refine oW.icmp_ge (pc' := 27) (pc3 := 16) K d2_13 (by decide) (by decide) rfl (fun _ => ?_) (fun q => absurd q (by decide))
  exact oW.retV K rfl d2_27 (by decide) (by decide) ⟨rfl, rfl⟩
set_option maxRecDepth 65536 in
set_option maxHeartbeats 40000000 in
theorem own_fill_4_1_2 {l : Launch} {Z : State} {a0 : Array Value} {h0 : Heap} (hw : ∀ d ∈ tables_1, d.before a0 Z = true) {a0_ a1 a2 a3 a4 a5 a6 : Addr} {l0 l1 l2 l3 l4 l5 : List Value} {xv e0 e1 e2 e3 : UInt64} :
    oCtr l Z h0 [] (⟨"java/util/Arrays", "fill", "([DIID)V"⟩ : MethodName) jdk_65_method_114_code 6 none ({ frames := 1, cells := 0, slots := 0, locals := 30 } : Room) #[(.ref a6), (.int (1 : Int32)), (.int (2 : Int32)), (.double xv)] [(a0_, .inl (.double, l0)), (a1, .inl (.double, l1)), (a2, .inl (.double, l2)), (a3, .inl (.int, l3)), (a4, .inl (.double, l4)), (a5, .inl (.double, l5)), (a6, .inl (.double, [(.double e0), (.double e1), (.double e2), (.double e3)]))] (oVoid fun d => d = [(a0_, .inl (.double, l0)), (a1, .inl (.double, l1)), (a2, .inl (.double, l2)), (a3, .inl (.int, l3)), (a4, .inl (.double, l4)), (a5, .inl (.double, l5)), (a6, .inl (.double, [(.double e0), (.double xv), (.double e2), (.double e3)]))]) := by
  refine oCtr.of (Ls := #[.val (.ref a6), .val (.int (1 : Int32)), .val (.int (2 : Int32)), .val (.double xv), .second, .unset]) (plainFor_of_name (by first | (simp [plainName, overriddenIn]; done) | decide +kernel)) (fun m => by first | (simp [entryFrame, mkF, argsToLocals, Value.category]; done) | rfl) ?_
  intro p e s m below meth c K
  refine oW.aloadN (pc' := 1) K d2_0 rfl rfl rfl ?_
  refine oW.alen (i := 6) (v := (4 : Int32)) (pc' := 2) K d2_1 rfl rfl rfl ?_
  refine oW.iloadN (pc' := 3) K d2_2 rfl rfl ?_
  refine oW.iloadN (pc' := 4) K d2_3 rfl rfl ?_
  refine oW.callS0 (argsL := [(.int (4 : Int32)), (.int (1 : Int32)), (.int (2 : Int32))]) (S := []) (rm := ({ frames := 0, cells := 0, slots := 0, locals := 0 } : Room)) (W := 0) (cells' := 0) (slots' := 0) (pc' := 7) K (hw _ (List.mem_of_getElem? (i := 13) rfl)) (hw _ (List.mem_of_getElem? (i := 14) rfl)) (hw _ (List.mem_of_getElem? (i := 11) rfl)) (hw _ (List.mem_of_getElem? (i := 15) rfl)) (by decide) (own_rc hw (by decide) (by decide) (by decide)) (lenOf pd_0 rfl) d2_4 rfl rfl (Nat.le_of_eq rfl) (by decide) (by decide) (by decide) (by decide) rfl rfl rfl ?_
  rintro _ rfl
  refine oW.iloadN (pc' := 8) K d2_7 rfl rfl ?_
  refine oW.istore (Ls' := #[.val (.ref a6), .val (.int (1 : Int32)), .val (.int (2 : Int32)), .val (.double xv), .second, .val (.int (1 : Int32))]) (pc' := 10) K d2_8 rfl rfl ?_
  refine oW.iload (pc' := 12) K d2_10 rfl rfl ?_
  refine oW.iloadN (pc' := 13) K d2_12 rfl rfl ?_
  refine oW.icmp_ge (pc' := 27) (pc3 := 16) K d2_13 (by decide) (by decide) rfl (fun q => absurd q (by decide)) (fun _ => ?_)
  refine oW.aloadN (pc' := 17) K d2_16 rfl rfl rfl ?_
  refine oW.iload (pc' := 19) K d2_17 rfl rfl ?_
  refine oW.dloadN (pc' := 20) K d2_19 rfl rfl ?_
  refine oW.dastore (i := 6) (k := 1) (ds' := [(a0_, .inl (.double, l0)), (a1, .inl (.double, l1)), (a2, .inl (.double, l2)), (a3, .inl (.int, l3)), (a4, .inl (.double, l4)), (a5, .inl (.double, l5)), (a6, .inl (.double, [(.double e0), (.double xv), (.double e2), (.double e3)]))]) (pc' := 21) K d2_20 rfl rfl (by decide) (Nat.lt_of_sub_eq_succ rfl) rfl rfl ?_
  refine oW.iinc (v := (2 : Int32)) (Ls' := #[.val (.ref a6), .val (.int (1 : Int32)), .val (.int (2 : Int32)), .val (.double xv), .second, .val (.int (2 : Int32))]) (pc' := 24) K d2_21 rfl (by decide) rfl rfl ?_
  refine oW.goto (pc' := 10) K d2_24 (by decide) (by decide) ?_
  refine oW.iload (pc' := 12) K d2_10 rfl rfl ?_
  refine oW.iloadN (pc' := 13) K d2_12 rfl rfl ?_
  refine oW.icmp_ge (pc' := 27) (pc3 := 16) K d2_13 (by decide) (by decide) rfl (fun _ => ?_) (fun q => absurd q (by decide))
  exact oW.retV K rfl d2_27 (by decide) (by decide) ⟨rfl, rfl⟩
set_option maxRecDepth 65536 in
set_option maxHeartbeats 40000000 in
theorem own_fill_4_2_3 {l : Launch} {Z : State} {a0 : Array Value} {h0 : Heap} (hw : ∀ d ∈ tables_1, d.before a0 Z = true) {a0_ a1 a2 a3 a4 a5 a6 : Addr} {l0 l1 l2 l3 l4 l5 : List Value} {xv e0 e1 e2 e3 : UInt64} :
    oCtr l Z h0 [] (⟨"java/util/Arrays", "fill", "([DIID)V"⟩ : MethodName) jdk_65_method_114_code 6 none ({ frames := 1, cells := 0, slots := 0, locals := 30 } : Room) #[(.ref a6), (.int (2 : Int32)), (.int (3 : Int32)), (.double xv)] [(a0_, .inl (.double, l0)), (a1, .inl (.double, l1)), (a2, .inl (.double, l2)), (a3, .inl (.int, l3)), (a4, .inl (.double, l4)), (a5, .inl (.double, l5)), (a6, .inl (.double, [(.double e0), (.double e1), (.double e2), (.double e3)]))] (oVoid fun d => d = [(a0_, .inl (.double, l0)), (a1, .inl (.double, l1)), (a2, .inl (.double, l2)), (a3, .inl (.int, l3)), (a4, .inl (.double, l4)), (a5, .inl (.double, l5)), (a6, .inl (.double, [(.double e0), (.double e1), (.double xv), (.double e3)]))]) := by
  refine oCtr.of (Ls := #[.val (.ref a6), .val (.int (2 : Int32)), .val (.int (3 : Int32)), .val (.double xv), .second, .unset]) (plainFor_of_name (by first | (simp [plainName, overriddenIn]; done) | decide +kernel)) (fun m => by first | (simp [entryFrame, mkF, argsToLocals, Value.category]; done) | rfl) ?_
  intro p e s m below meth c K
  refine oW.aloadN (pc' := 1) K d2_0 rfl rfl rfl ?_
  refine oW.alen (i := 6) (v := (4 : Int32)) (pc' := 2) K d2_1 rfl rfl rfl ?_
  refine oW.iloadN (pc' := 3) K d2_2 rfl rfl ?_
  refine oW.iloadN (pc' := 4) K d2_3 rfl rfl ?_
  refine oW.callS0 (argsL := [(.int (4 : Int32)), (.int (2 : Int32)), (.int (3 : Int32))]) (S := []) (rm := ({ frames := 0, cells := 0, slots := 0, locals := 0 } : Room)) (W := 0) (cells' := 0) (slots' := 0) (pc' := 7) K (hw _ (List.mem_of_getElem? (i := 13) rfl)) (hw _ (List.mem_of_getElem? (i := 14) rfl)) (hw _ (List.mem_of_getElem? (i := 11) rfl)) (hw _ (List.mem_of_getElem? (i := 15) rfl)) (by decide) (own_rc hw (by decide) (by decide) (by decide)) (lenOf pd_0 rfl) d2_4 rfl rfl (Nat.le_of_eq rfl) (by decide) (by decide) (by decide) (by decide) rfl rfl rfl ?_
  rintro _ rfl
  refine oW.iloadN (pc' := 8) K d2_7 rfl rfl ?_
  refine oW.istore (Ls' := #[.val (.ref a6), .val (.int (2 : Int32)), .val (.int (3 : Int32)), .val (.double xv), .second, .val (.int (2 : Int32))]) (pc' := 10) K d2_8 rfl rfl ?_
  refine oW.iload (pc' := 12) K d2_10 rfl rfl ?_
  refine oW.iloadN (pc' := 13) K d2_12 rfl rfl ?_
  refine oW.icmp_ge (pc' := 27) (pc3 := 16) K d2_13 (by decide) (by decide) rfl (fun q => absurd q (by decide)) (fun _ => ?_)
  refine oW.aloadN (pc' := 17) K d2_16 rfl rfl rfl ?_
  refine oW.iload (pc' := 19) K d2_17 rfl rfl ?_
  refine oW.dloadN (pc' := 20) K d2_19 rfl rfl ?_
  refine oW.dastore (i := 6) (k := 2) (ds' := [(a0_, .inl (.double, l0)), (a1, .inl (.double, l1)), (a2, .inl (.double, l2)), (a3, .inl (.int, l3)), (a4, .inl (.double, l4)), (a5, .inl (.double, l5)), (a6, .inl (.double, [(.double e0), (.double e1), (.double xv), (.double e3)]))]) (pc' := 21) K d2_20 rfl rfl (by decide) (Nat.lt_of_sub_eq_succ rfl) rfl rfl ?_
  refine oW.iinc (v := (3 : Int32)) (Ls' := #[.val (.ref a6), .val (.int (2 : Int32)), .val (.int (3 : Int32)), .val (.double xv), .second, .val (.int (3 : Int32))]) (pc' := 24) K d2_21 rfl (by decide) rfl rfl ?_
  refine oW.goto (pc' := 10) K d2_24 (by decide) (by decide) ?_
  refine oW.iload (pc' := 12) K d2_10 rfl rfl ?_
  refine oW.iloadN (pc' := 13) K d2_12 rfl rfl ?_
  refine oW.icmp_ge (pc' := 27) (pc3 := 16) K d2_13 (by decide) (by decide) rfl (fun _ => ?_) (fun q => absurd q (by decide))
  exact oW.retV K rfl d2_27 (by decide) (by decide) ⟨rfl, rfl⟩
set_option maxRecDepth 65536 in
set_option maxHeartbeats 40000000 in
theorem own_fill_4_3_4 {l : Launch} {Z : State} {a0 : Array Value} {h0 : Heap} (hw : ∀ d ∈ tables_1, d.before a0 Z = true) {a0_ a1 a2 a3 a4 a5 a6 : Addr} {l0 l1 l2 l3 l4 l5 : List Value} {xv e0 e1 e2 e3 : UInt64} :
    oCtr l Z h0 [] (⟨"java/util/Arrays", "fill", "([DIID)V"⟩ : MethodName) jdk_65_method_114_code 6 none ({ frames := 1, cells := 0, slots := 0, locals := 30 } : Room) #[(.ref a6), (.int (3 : Int32)), (.int (4 : Int32)), (.double xv)] [(a0_, .inl (.double, l0)), (a1, .inl (.double, l1)), (a2, .inl (.double, l2)), (a3, .inl (.int, l3)), (a4, .inl (.double, l4)), (a5, .inl (.double, l5)), (a6, .inl (.double, [(.double e0), (.double e1), (.double e2), (.double e3)]))] (oVoid fun d => d = [(a0_, .inl (.double, l0)), (a1, .inl (.double, l1)), (a2, .inl (.double, l2)), (a3, .inl (.int, l3)), (a4, .inl (.double, l4)), (a5, .inl (.double, l5)), (a6, .inl (.double, [(.double e0), (.double e1), (.double e2), (.double xv)]))]) := by
  refine oCtr.of (Ls := #[.val (.ref a6), .val (.int (3 : Int32)), .val (.int (4 : Int32)), .val (.double xv), .second, .unset]) (plainFor_of_name (by first | (simp [plainName, overriddenIn]; done) | decide +kernel)) (fun m => by first | (simp [entryFrame, mkF, argsToLocals, Value.category]; done) | rfl) ?_
  intro p e s m below meth c K
  refine oW.aloadN (pc' := 1) K d2_0 rfl rfl rfl ?_
  refine oW.alen (i := 6) (v := (4 : Int32)) (pc' := 2) K d2_1 rfl rfl rfl ?_
  refine oW.iloadN (pc' := 3) K d2_2 rfl rfl ?_
  refine oW.iloadN (pc' := 4) K d2_3 rfl rfl ?_
  refine oW.callS0 (argsL := [(.int (4 : Int32)), (.int (3 : Int32)), (.int (4 : Int32))]) (S := []) (rm := ({ frames := 0, cells := 0, slots := 0, locals := 0 } : Room)) (W := 0) (cells' := 0) (slots' := 0) (pc' := 7) K (hw _ (List.mem_of_getElem? (i := 13) rfl)) (hw _ (List.mem_of_getElem? (i := 14) rfl)) (hw _ (List.mem_of_getElem? (i := 11) rfl)) (hw _ (List.mem_of_getElem? (i := 15) rfl)) (by decide) (own_rc hw (by decide) (by decide) (by decide)) (lenOf pd_0 rfl) d2_4 rfl rfl (Nat.le_of_eq rfl) (by decide) (by decide) (by decide) (by decide) rfl rfl rfl ?_
  rintro _ rfl
  refine oW.iloadN (pc' := 8) K d2_7 rfl rfl ?_
  refine oW.istore (Ls' := #[.val (.ref a6), .val (.int (3 : Int32)), .val (.int (4 : Int32)), .val (.double xv), .second, .val (.int (3 : Int32))]) (pc' := 10) K d2_8 rfl rfl ?_
  refine oW.iload (pc' := 12) K d2_10 rfl rfl ?_
  refine oW.iloadN (pc' := 13) K d2_12 rfl rfl ?_
  refine oW.icmp_ge (pc' := 27) (pc3 := 16) K d2_13 (by decide) (by decide) rfl (fun q => absurd q (by decide)) (fun _ => ?_)
  refine oW.aloadN (pc' := 17) K d2_16 rfl rfl rfl ?_
  refine oW.iload (pc' := 19) K d2_17 rfl rfl ?_
  refine oW.dloadN (pc' := 20) K d2_19 rfl rfl ?_
  refine oW.dastore (i := 6) (k := 3) (ds' := [(a0_, .inl (.double, l0)), (a1, .inl (.double, l1)), (a2, .inl (.double, l2)), (a3, .inl (.int, l3)), (a4, .inl (.double, l4)), (a5, .inl (.double, l5)), (a6, .inl (.double, [(.double e0), (.double e1), (.double e2), (.double xv)]))]) (pc' := 21) K d2_20 rfl rfl (by decide) (Nat.lt_of_sub_eq_succ rfl) rfl rfl ?_
  refine oW.iinc (v := (4 : Int32)) (Ls' := #[.val (.ref a6), .val (.int (3 : Int32)), .val (.int (4 : Int32)), .val (.double xv), .second, .val (.int (4 : Int32))]) (pc' := 24) K d2_21 rfl (by decide) rfl rfl ?_
  refine oW.goto (pc' := 10) K d2_24 (by decide) (by decide) ?_
  refine oW.iload (pc' := 12) K d2_10 rfl rfl ?_
  refine oW.iloadN (pc' := 13) K d2_12 rfl rfl ?_
  refine oW.icmp_ge (pc' := 27) (pc3 := 16) K d2_13 (by decide) (by decide) rfl (fun _ => ?_) (fun q => absurd q (by decide))
  exact oW.retV K rfl d2_27 (by decide) (by decide) ⟨rfl, rfl⟩
set_option maxRecDepth 65536 in
set_option maxHeartbeats 40000000 in
theorem own_fill_4_1_3 {l : Launch} {Z : State} {a0 : Array Value} {h0 : Heap} (hw : ∀ d ∈ tables_1, d.before a0 Z = true) {a0_ a1 a2 a3 a4 a5 a6 : Addr} {l0 l1 l2 l3 l4 l5 : List Value} {xv e0 e1 e2 e3 : UInt64} :
    oCtr l Z h0 [] (⟨"java/util/Arrays", "fill", "([DIID)V"⟩ : MethodName) jdk_65_method_114_code 6 none ({ frames := 1, cells := 0, slots := 0, locals := 30 } : Room) #[(.ref a6), (.int (1 : Int32)), (.int (3 : Int32)), (.double xv)] [(a0_, .inl (.double, l0)), (a1, .inl (.double, l1)), (a2, .inl (.double, l2)), (a3, .inl (.int, l3)), (a4, .inl (.double, l4)), (a5, .inl (.double, l5)), (a6, .inl (.double, [(.double e0), (.double e1), (.double e2), (.double e3)]))] (oVoid fun d => d = [(a0_, .inl (.double, l0)), (a1, .inl (.double, l1)), (a2, .inl (.double, l2)), (a3, .inl (.int, l3)), (a4, .inl (.double, l4)), (a5, .inl (.double, l5)), (a6, .inl (.double, [(.double e0), (.double xv), (.double xv), (.double e3)]))]) := by
  refine oCtr.of (Ls := #[.val (.ref a6), .val (.int (1 : Int32)), .val (.int (3 : Int32)), .val (.double xv), .second, .unset]) (plainFor_of_name (by first | (simp [plainName, overriddenIn]; done) | decide +kernel)) (fun m => by first | (simp [entryFrame, mkF, argsToLocals, Value.category]; done) | rfl) ?_
  intro p e s m below meth c K
  refine oW.aloadN (pc' := 1) K d2_0 rfl rfl rfl ?_
  refine oW.alen (i := 6) (v := (4 : Int32)) (pc' := 2) K d2_1 rfl rfl rfl ?_
  refine oW.iloadN (pc' := 3) K d2_2 rfl rfl ?_
  refine oW.iloadN (pc' := 4) K d2_3 rfl rfl ?_
  refine oW.callS0 (argsL := [(.int (4 : Int32)), (.int (1 : Int32)), (.int (3 : Int32))]) (S := []) (rm := ({ frames := 0, cells := 0, slots := 0, locals := 0 } : Room)) (W := 0) (cells' := 0) (slots' := 0) (pc' := 7) K (hw _ (List.mem_of_getElem? (i := 13) rfl)) (hw _ (List.mem_of_getElem? (i := 14) rfl)) (hw _ (List.mem_of_getElem? (i := 11) rfl)) (hw _ (List.mem_of_getElem? (i := 15) rfl)) (by decide) (own_rc hw (by decide) (by decide) (by decide)) (lenOf pd_0 rfl) d2_4 rfl rfl (Nat.le_of_eq rfl) (by decide) (by decide) (by decide) (by decide) rfl rfl rfl ?_
  rintro _ rfl
  refine oW.iloadN (pc' := 8) K d2_7 rfl rfl ?_
  refine oW.istore (Ls' := #[.val (.ref a6), .val (.int (1 : Int32)), .val (.int (3 : Int32)), .val (.double xv), .second, .val (.int (1 : Int32))]) (pc' := 10) K d2_8 rfl rfl ?_
  refine oW.iload (pc' := 12) K d2_10 rfl rfl ?_
  refine oW.iloadN (pc' := 13) K d2_12 rfl rfl ?_
  refine oW.icmp_ge (pc' := 27) (pc3 := 16) K d2_13 (by decide) (by decide) rfl (fun q => absurd q (by decide)) (fun _ => ?_)
  refine oW.aloadN (pc' := 17) K d2_16 rfl rfl rfl ?_
  refine oW.iload (pc' := 19) K d2_17 rfl rfl ?_
  refine oW.dloadN (pc' := 20) K d2_19 rfl rfl ?_
  refine oW.dastore (i := 6) (k := 1) (ds' := [(a0_, .inl (.double, l0)), (a1, .inl (.double, l1)), (a2, .inl (.double, l2)), (a3, .inl (.int, l3)), (a4, .inl (.double, l4)), (a5, .inl (.double, l5)), (a6, .inl (.double, [(.double e0), (.double xv), (.double e2), (.double e3)]))]) (pc' := 21) K d2_20 rfl rfl (by decide) (Nat.lt_of_sub_eq_succ rfl) rfl rfl ?_
  refine oW.iinc (v := (2 : Int32)) (Ls' := #[.val (.ref a6), .val (.int (1 : Int32)), .val (.int (3 : Int32)), .val (.double xv), .second, .val (.int (2 : Int32))]) (pc' := 24) K d2_21 rfl (by decide) rfl rfl ?_
  refine oW.goto (pc' := 10) K d2_24 (by decide) (by decide) ?_
  refine oW.iload (pc' := 12) K d2_10 rfl rfl ?_
  refine oW.iloadN (pc' := 13) K d2_12 rfl rfl ?_
  refine oW.icmp_ge (pc' := 27) (pc3 := 16) K d2_13 (by decide) (by decide) rfl (fun q => absurd q (by decide)) (fun _ => ?_)
  refine oW.aloadN (pc' := 17) K d2_16 rfl rfl rfl ?_
  refine oW.iload (pc' := 19) K d2_17 rfl rfl ?_
  refine oW.dloadN (pc' := 20) K d2_19 rfl rfl ?_
  refine oW.dastore (i := 6) (k := 2) (ds' := [(a0_, .inl (.double, l0)), (a1, .inl (.double, l1)), (a2, .inl (.double, l2)), (a3, .inl (.int, l3)), (a4, .inl (.double, l4)), (a5, .inl (.double, l5)), (a6, .inl (.double, [(.double e0), (.double xv), (.double xv), (.double e3)]))]) (pc' := 21) K d2_20 rfl rfl (by decide) (Nat.lt_of_sub_eq_succ rfl) rfl rfl ?_
  refine oW.iinc (v := (3 : Int32)) (Ls' := #[.val (.ref a6), .val (.int (1 : Int32)), .val (.int (3 : Int32)), .val (.double xv), .second, .val (.int (3 : Int32))]) (pc' := 24) K d2_21 rfl (by decide) rfl rfl ?_
  refine oW.goto (pc' := 10) K d2_24 (by decide) (by decide) ?_
  refine oW.iload (pc' := 12) K d2_10 rfl rfl ?_
  refine oW.iloadN (pc' := 13) K d2_12 rfl rfl ?_
  refine oW.icmp_ge (pc' := 27) (pc3 := 16) K d2_13 (by decide) (by decide) rfl (fun _ => ?_) (fun q => absurd q (by decide))
  exact oW.retV K rfl d2_27 (by decide) (by decide) ⟨rfl, rfl⟩
set_option maxRecDepth 65536 in
set_option maxHeartbeats 40000000 in
theorem own_fill_4_0_3 {l : Launch} {Z : State} {a0 : Array Value} {h0 : Heap} (hw : ∀ d ∈ tables_1, d.before a0 Z = true) {a0_ a1 a2 a3 a4 a5 a6 : Addr} {l0 l1 l2 l3 l4 l5 : List Value} {xv e0 e1 e2 e3 : UInt64} :
    oCtr l Z h0 [] (⟨"java/util/Arrays", "fill", "([DIID)V"⟩ : MethodName) jdk_65_method_114_code 6 none ({ frames := 1, cells := 0, slots := 0, locals := 30 } : Room) #[(.ref a6), (.int (0 : Int32)), (.int (3 : Int32)), (.double xv)] [(a0_, .inl (.double, l0)), (a1, .inl (.double, l1)), (a2, .inl (.double, l2)), (a3, .inl (.int, l3)), (a4, .inl (.double, l4)), (a5, .inl (.double, l5)), (a6, .inl (.double, [(.double e0), (.double e1), (.double e2), (.double e3)]))] (oVoid fun d => d = [(a0_, .inl (.double, l0)), (a1, .inl (.double, l1)), (a2, .inl (.double, l2)), (a3, .inl (.int, l3)), (a4, .inl (.double, l4)), (a5, .inl (.double, l5)), (a6, .inl (.double, [(.double xv), (.double xv), (.double xv), (.double e3)]))]) := by
  refine oCtr.of (Ls := #[.val (.ref a6), .val (.int (0 : Int32)), .val (.int (3 : Int32)), .val (.double xv), .second, .unset]) (plainFor_of_name (by first | (simp [plainName, overriddenIn]; done) | decide +kernel)) (fun m => by first | (simp [entryFrame, mkF, argsToLocals, Value.category]; done) | rfl) ?_
  intro p e s m below meth c K
  refine oW.aloadN (pc' := 1) K d2_0 rfl rfl rfl ?_
  refine oW.alen (i := 6) (v := (4 : Int32)) (pc' := 2) K d2_1 rfl rfl rfl ?_
  refine oW.iloadN (pc' := 3) K d2_2 rfl rfl ?_
  refine oW.iloadN (pc' := 4) K d2_3 rfl rfl ?_
  refine oW.callS0 (argsL := [(.int (4 : Int32)), (.int (0 : Int32)), (.int (3 : Int32))]) (S := []) (rm := ({ frames := 0, cells := 0, slots := 0, locals := 0 } : Room)) (W := 0) (cells' := 0) (slots' := 0) (pc' := 7) K (hw _ (List.mem_of_getElem? (i := 13) rfl)) (hw _ (List.mem_of_getElem? (i := 14) rfl)) (hw _ (List.mem_of_getElem? (i := 11) rfl)) (hw _ (List.mem_of_getElem? (i := 15) rfl)) (by decide) (own_rc hw (by decide) (by decide) (by decide)) (lenOf pd_0 rfl) d2_4 rfl rfl (Nat.le_of_eq rfl) (by decide) (by decide) (by decide) (by decide) rfl rfl rfl ?_
  rintro _ rfl
  refine oW.iloadN (pc' := 8) K d2_7 rfl rfl ?_
  refine oW.istore (Ls' := #[.val (.ref a6), .val (.int (0 : Int32)), .val (.int (3 : Int32)), .val (.double xv), .second, .val (.int (0 : Int32))]) (pc' := 10) K d2_8 rfl rfl ?_
  refine oW.iload (pc' := 12) K d2_10 rfl rfl ?_
  refine oW.iloadN (pc' := 13) K d2_12 rfl rfl ?_
  refine oW.icmp_ge (pc' := 27) (pc3 := 16) K d2_13 (by decide) (by decide) rfl (fun q => absurd q (by decide)) (fun _ => ?_)
  refine oW.aloadN (pc' := 17) K d2_16 rfl rfl rfl ?_
  refine oW.iload (pc' := 19) K d2_17 rfl rfl ?_
  refine oW.dloadN (pc' := 20) K d2_19 rfl rfl ?_
  refine oW.dastore (i := 6) (k := 0) (ds' := [(a0_, .inl (.double, l0)), (a1, .inl (.double, l1)), (a2, .inl (.double, l2)), (a3, .inl (.int, l3)), (a4, .inl (.double, l4)), (a5, .inl (.double, l5)), (a6, .inl (.double, [(.double xv), (.double e1), (.double e2), (.double e3)]))]) (pc' := 21) K d2_20 rfl rfl (by decide) (Nat.lt_of_sub_eq_succ rfl) rfl rfl ?_
  refine oW.iinc (v := (1 : Int32)) (Ls' := #[.val (.ref a6), .val (.int (0 : Int32)), .val (.int (3 : Int32)), .val (.double xv), .second, .val (.int (1 : Int32))]) (pc' := 24) K d2_21 rfl (by decide) rfl rfl ?_
  refine oW.goto (pc' := 10) K d2_24 (by decide) (by decide) ?_
  refine oW.iload (pc' := 12) K d2_10 rfl rfl ?_
  refine oW.iloadN (pc' := 13) K d2_12 rfl rfl ?_
  refine oW.icmp_ge (pc' := 27) (pc3 := 16) K d2_13 (by decide) (by decide) rfl (fun q => absurd q (by decide)) (fun _ => ?_)
  refine oW.aloadN (pc' := 17) K d2_16 rfl rfl rfl ?_
  refine oW.iload (pc' := 19) K d2_17 rfl rfl ?_
  refine oW.dloadN (pc' := 20) K d2_19 rfl rfl ?_
  refine oW.dastore (i := 6) (k := 1) (ds' := [(a0_, .inl (.double, l0)), (a1, .inl (.double, l1)), (a2, .inl (.double, l2)), (a3, .inl (.int, l3)), (a4, .inl (.double, l4)), (a5, .inl (.double, l5)), (a6, .inl (.double, [(.double xv), (.double xv), (.double e2), (.double e3)]))]) (pc' := 21) K d2_20 rfl rfl (by decide) (Nat.lt_of_sub_eq_succ rfl) rfl rfl ?_
  refine oW.iinc (v := (2 : Int32)) (Ls' := #[.val (.ref a6), .val (.int (0 : Int32)), .val (.int (3 : Int32)), .val (.double xv), .second, .val (.int (2 : Int32))]) (pc' := 24) K d2_21 rfl (by decide) rfl rfl ?_
  refine oW.goto (pc' := 10) K d2_24 (by decide) (by decide) ?_
  refine oW.iload (pc' := 12) K d2_10 rfl rfl ?_
  refine oW.iloadN (pc' := 13) K d2_12 rfl rfl ?_
  refine oW.icmp_ge (pc' := 27) (pc3 := 16) K d2_13 (by decide) (by decide) rfl (fun q => absurd q (by decide)) (fun _ => ?_)
  refine oW.aloadN (pc' := 17) K d2_16 rfl rfl rfl ?_
  refine oW.iload (pc' := 19) K d2_17 rfl rfl ?_
  refine oW.dloadN (pc' := 20) K d2_19 rfl rfl ?_
  refine oW.dastore (i := 6) (k := 2) (ds' := [(a0_, .inl (.double, l0)), (a1, .inl (.double, l1)), (a2, .inl (.double, l2)), (a3, .inl (.int, l3)), (a4, .inl (.double, l4)), (a5, .inl (.double, l5)), (a6, .inl (.double, [(.double xv), (.double xv), (.double xv), (.double e3)]))]) (pc' := 21) K d2_20 rfl rfl (by decide) (Nat.lt_of_sub_eq_succ rfl) rfl rfl ?_
  refine oW.iinc (v := (3 : Int32)) (Ls' := #[.val (.ref a6), .val (.int (0 : Int32)), .val (.int (3 : Int32)), .val (.double xv), .second, .val (.int (3 : Int32))]) (pc' := 24) K d2_21 rfl (by decide) rfl rfl ?_
  refine oW.goto (pc' := 10) K d2_24 (by decide) (by decide) ?_
  refine oW.iload (pc' := 12) K d2_10 rfl rfl ?_
  refine oW.iloadN (pc' := 13) K d2_12 rfl rfl ?_
  refine oW.icmp_ge (pc' := 27) (pc3 := 16) K d2_13 (by decide) (by decide) rfl (fun _ => ?_) (fun q => absurd q (by decide))
  exact oW.retV K rfl d2_27 (by decide) (by decide) ⟨rfl, rfl⟩
set_option maxRecDepth 65536 in
set_option maxHeartbeats 40000000 in
theorem own_fill_4_0_2 {l : Launch} {Z : State} {a0 : Array Value} {h0 : Heap} (hw : ∀ d ∈ tables_1, d.before a0 Z = true) {a0_ a1 a2 a3 a4 a5 a6 : Addr} {l0 l1 l2 l3 l4 l5 : List Value} {xv e0 e1 e2 e3 : UInt64} :
    oCtr l Z h0 [] (⟨"java/util/Arrays", "fill", "([DIID)V"⟩ : MethodName) jdk_65_method_114_code 6 none ({ frames := 1, cells := 0, slots := 0, locals := 30 } : Room) #[(.ref a6), (.int (0 : Int32)), (.int (2 : Int32)), (.double xv)] [(a0_, .inl (.double, l0)), (a1, .inl (.double, l1)), (a2, .inl (.double, l2)), (a3, .inl (.int, l3)), (a4, .inl (.double, l4)), (a5, .inl (.double, l5)), (a6, .inl (.double, [(.double e0), (.double e1), (.double e2), (.double e3)]))] (oVoid fun d => d = [(a0_, .inl (.double, l0)), (a1, .inl (.double, l1)), (a2, .inl (.double, l2)), (a3, .inl (.int, l3)), (a4, .inl (.double, l4)), (a5, .inl (.double, l5)), (a6, .inl (.double, [(.double xv), (.double xv), (.double e2), (.double e3)]))]) := by
  refine oCtr.of (Ls := #[.val (.ref a6), .val (.int (0 : Int32)), .val (.int (2 : Int32)), .val (.double xv), .second, .unset]) (plainFor_of_name (by first | (simp [plainName, overriddenIn]; done) | decide +kernel)) (fun m => by first | (simp [entryFrame, mkF, argsToLocals, Value.category]; done) | rfl) ?_
  intro p e s m below meth c K
  refine oW.aloadN (pc' := 1) K d2_0 rfl rfl rfl ?_
  refine oW.alen (i := 6) (v := (4 : Int32)) (pc' := 2) K d2_1 rfl rfl rfl ?_
  refine oW.iloadN (pc' := 3) K d2_2 rfl rfl ?_
  refine oW.iloadN (pc' := 4) K d2_3 rfl rfl ?_
  refine oW.callS0 (argsL := [(.int (4 : Int32)), (.int (0 : Int32)), (.int (2 : Int32))]) (S := []) (rm := ({ frames := 0, cells := 0, slots := 0, locals := 0 } : Room)) (W := 0) (cells' := 0) (slots' := 0) (pc' := 7) K (hw _ (List.mem_of_getElem? (i := 13) rfl)) (hw _ (List.mem_of_getElem? (i := 14) rfl)) (hw _ (List.mem_of_getElem? (i := 11) rfl)) (hw _ (List.mem_of_getElem? (i := 15) rfl)) (by decide) (own_rc hw (by decide) (by decide) (by decide)) (lenOf pd_0 rfl) d2_4 rfl rfl (Nat.le_of_eq rfl) (by decide) (by decide) (by decide) (by decide) rfl rfl rfl ?_
  rintro _ rfl
  refine oW.iloadN (pc' := 8) K d2_7 rfl rfl ?_
  refine oW.istore (Ls' := #[.val (.ref a6), .val (.int (0 : Int32)), .val (.int (2 : Int32)), .val (.double xv), .second, .val (.int (0 : Int32))]) (pc' := 10) K d2_8 rfl rfl ?_
  refine oW.iload (pc' := 12) K d2_10 rfl rfl ?_
  refine oW.iloadN (pc' := 13) K d2_12 rfl rfl ?_
  refine oW.icmp_ge (pc' := 27) (pc3 := 16) K d2_13 (by decide) (by decide) rfl (fun q => absurd q (by decide)) (fun _ => ?_)
  refine oW.aloadN (pc' := 17) K d2_16 rfl rfl rfl ?_
  refine oW.iload (pc' := 19) K d2_17 rfl rfl ?_
  refine oW.dloadN (pc' := 20) K d2_19 rfl rfl ?_
  refine oW.dastore (i := 6) (k := 0) (ds' := [(a0_, .inl (.double, l0)), (a1, .inl (.double, l1)), (a2, .inl (.double, l2)), (a3, .inl (.int, l3)), (a4, .inl (.double, l4)), (a5, .inl (.double, l5)), (a6, .inl (.double, [(.double xv), (.double e1), (.double e2), (.double e3)]))]) (pc' := 21) K d2_20 rfl rfl (by decide) (Nat.lt_of_sub_eq_succ rfl) rfl rfl ?_
  refine oW.iinc (v := (1 : Int32)) (Ls' := #[.val (.ref a6), .val (.int (0 : Int32)), .val (.int (2 : Int32)), .val (.double xv), .second, .val (.int (1 : Int32))]) (pc' := 24) K d2_21 rfl (by decide) rfl rfl ?_
  refine oW.goto (pc' := 10) K d2_24 (by decide) (by decide) ?_
  refine oW.iload (pc' := 12) K d2_10 rfl rfl ?_
  refine oW.iloadN (pc' := 13) K d2_12 rfl rfl ?_
  refine oW.icmp_ge (pc' := 27) (pc3 := 16) K d2_13 (by decide) (by decide) rfl (fun q => absurd q (by decide)) (fun _ => ?_)
  refine oW.aloadN (pc' := 17) K d2_16 rfl rfl rfl ?_
  refine oW.iload (pc' := 19) K d2_17 rfl rfl ?_
  refine oW.dloadN (pc' := 20) K d2_19 rfl rfl ?_
  refine oW.dastore (i := 6) (k := 1) (ds' := [(a0_, .inl (.double, l0)), (a1, .inl (.double, l1)), (a2, .inl (.double, l2)), (a3, .inl (.int, l3)), (a4, .inl (.double, l4)), (a5, .inl (.double, l5)), (a6, .inl (.double, [(.double xv), (.double xv), (.double e2), (.double e3)]))]) (pc' := 21) K d2_20 rfl rfl (by decide) (Nat.lt_of_sub_eq_succ rfl) rfl rfl ?_
  refine oW.iinc (v := (2 : Int32)) (Ls' := #[.val (.ref a6), .val (.int (0 : Int32)), .val (.int (2 : Int32)), .val (.double xv), .second, .val (.int (2 : Int32))]) (pc' := 24) K d2_21 rfl (by decide) rfl rfl ?_
  refine oW.goto (pc' := 10) K d2_24 (by decide) (by decide) ?_
  refine oW.iload (pc' := 12) K d2_10 rfl rfl ?_
  refine oW.iloadN (pc' := 13) K d2_12 rfl rfl ?_
  refine oW.icmp_ge (pc' := 27) (pc3 := 16) K d2_13 (by decide) (by decide) rfl (fun _ => ?_) (fun q => absurd q (by decide))
  exact oW.retV K rfl d2_27 (by decide) (by decide) ⟨rfl, rfl⟩
set_option maxRecDepth 65536 in
set_option maxHeartbeats 40000000 in
theorem own_ir4 {l : Launch} {Z : State} {a0 : Array Value} {h0 : Heap} (hw : ∀ d ∈ tables_1, d.before a0 Z = true) {a b : Addr} {s0 p0 s1 p1 s2 p2 s3 p3 : UInt64} {u0 q0 R0 u1 q1 R1 u2 q2 R2 u3 q3 R3 g1 T0 c0 g2 T1 c1 g3 T2 c2 : Int} (hs0 : oQ u0 0 s0) (hp0 : oQ q0 5 p0) (hq0 : 1 ≤ q0 ∧ q0 ≤ 32) (hu0 : -8589934592 ≤ u0 ∧ u0 ≤ 8589934592) (hb0 : -68719476736 ≤ R0 ∧ R0 ≤ 68719476736) (hs1 : oQ u1 0 s1) (hp1 : oQ q1 5 p1) (hq1 : 1 ≤ q1 ∧ q1 ≤ 32) (hu1 : -8589934592 ≤ u1 ∧ u1 ≤ 8589934592) (hb1 : -68719476736 ≤ R1 ∧ R1 ≤ 68719476736) (hs2 : oQ u2 0 s2) (hp2 : oQ q2 5 p2) (hq2 : 1 ≤ q2 ∧ q2 ≤ 32) (hu2 : -8589934592 ≤ u2 ∧ u2 ≤ 8589934592) (hb2 : -68719476736 ≤ R2 ∧ R2 ≤ 68719476736) (hs3 : oQ u3 0 s3) (hp3 : oQ q3 5 p3) (hq3 : 1 ≤ q3 ∧ q3 ≤ 32) (hu3 : -8589934592 ≤ u3 ∧ u3 ≤ 8589934592) (hb3 : -68719476736 ≤ R3 ∧ R3 ≤ 68719476736) (hsum : q0 + q1 + q2 + q3 ≤ 32) (hg0 : u1 - u0 = g1) (hT0 : T0 = q1 + q2 + q3) (hc0 : q0 * c0 = 8) (hP0 : 0 ≤ g1 * T0 ∧ g1 * T0 ≤ 33554432) (hPc0 : 0 ≤ g1 * T0 * c0 ∧ g1 * T0 * c0 ≤ 268435456) (hR0 : u0 * 8 - g1 * T0 * c0 = R0) (hm0 : R0 ≤ R3) (hg1 : u2 - u1 = g2) (hT1 : T1 = q2 + q3) (hc1 : q1 * c1 = 8) (hP1 : 0 ≤ g2 * T1 ∧ g2 * T1 ≤ 33554432) (hPc1 : 0 ≤ g2 * T1 * c1 ∧ g2 * T1 * c1 ≤ 268435456) (hR1 : u1 * 8 - g2 * T1 * c1 = R1) (hm1 : R1 ≤ R3) (hg2 : u3 - u2 = g3) (hT2 : T2 = q3) (hc2 : q2 * c2 = 8) (hP2 : 0 ≤ g3 * T2 ∧ g3 * T2 ≤ 33554432) (hPc2 : 0 ≤ g3 * T2 * c2 ∧ g3 * T2 * c2 ≤ 268435456) (hR2 : u2 * 8 - g3 * T2 * c2 = R2) (hm2 : R2 ≤ R3) (hR3 : u3 * 8 = R3) :
    oCtr l Z h0 [] (⟨"com/example/arrivage/arrivage/mechanism/VirtualValues", "ironed", "([D[D)[D"⟩ : MethodName) prog_19_method_2_code 15 (some (.array .double)) ({ frames := 2, cells := 5, slots := 20, locals := 60 } : Room) #[(.ref a), (.ref b)] [(a, .inl (.double, [(.double s0), (.double s1), (.double s2), (.double s3)])), (b, .inl (.double, [(.double p0), (.double p1), (.double p2), (.double p3)]))] (oVal fun w d => ∃ (a2 a3 a4 a5 a6 : Addr) (l2 l3 l4 l5 : List Value) (v0 v1 v2 v3 : UInt64), w = .ref a6 ∧ d = [(a, .inl (.double, [(.double s0), (.double s1), (.double s2), (.double s3)])), (b, .inl (.double, [(.double p0), (.double p1), (.double p2), (.double p3)])), (a2, .inl (.double, l2)), (a3, .inl (.int, l3)), (a4, .inl (.double, l4)), (a5, .inl (.double, l5)), (a6, .inl (.double, [(.double v0), (.double v1), (.double v2), (.double v3)]))] ∧ oIr R0 R1 R2 q0 q1 q2 v0 v1 v2 ∧ oQ R3 3 v3) := by
  refine oCtr.of (Ls := #[.val (.ref a), .val (.ref b), .unset, .unset, .unset, .unset, .unset, .unset, .unset, .unset, .unset, .unset, .unset, .unset, .unset]) (plainFor_of_name (by first | (simp [plainName, overriddenIn]; done) | decide +kernel)) (fun m => by first | (simp [entryFrame, mkF, argsToLocals, Value.category]; done) | rfl) ?_
  intro p e s m below meth c K
  have hN0 := oMBr (q := q0) (R := R0) (by omega) hb0
  have hN1 := oMBr (q := q1) (R := R1) (by omega) hb1
  have hN2 := oMBr (q := q2) (R := R2) (by omega) hb2
  have hN3 := oMBr (q := q3) (R := R3) (by omega) hb3
  refine oW.aloadN (pc' := 1) K d1_0 rfl rfl rfl ?_
  refine oW.alen (i := 0) (v := (4 : Int32)) (pc' := 2) K d1_1 rfl rfl rfl ?_
  refine oW.istoreN (Ls' := #[.val (.ref a), .val (.ref b), .val (.int (4 : Int32)), .unset, .unset, .unset, .unset, .unset, .unset, .unset, .unset, .unset, .unset, .unset, .unset]) (pc' := 3) K d1_2 rfl rfl ?_
  refine oW.iloadN (pc' := 4) K d1_3 rfl rfl ?_
  refine oW.newarr (n := 4) (cells' := 1) (slots' := 4) (dsf := fun z => [(a, .inl (.double, [(.double s0), (.double s1), (.double s2), (.double s3)])), (b, .inl (.double, [(.double p0), (.double p1), (.double p2), (.double p3)])), (z, .inl (.double, [(.double (0 : UInt64)), (.double (0 : UInt64)), (.double (0 : UInt64)), (.double (0 : UInt64))]))]) (pc' := 6) K (hw _ (List.mem_of_getElem? (i := 2) rfl)) d1_4 rfl (by decide) (by decide) (by decide) (by decide) rfl rfl (fun _ => rfl) rfl ?_
  intro a4 ha4
  refine oW.astoreN (Ls' := #[.val (.ref a), .val (.ref b), .val (.int (4 : Int32)), .val (.ref a4), .unset, .unset, .unset, .unset, .unset, .unset, .unset, .unset, .unset, .unset, .unset]) (pc' := 7) K d1_6 rfl rfl rfl ?_
  refine oW.dconst0 (pc' := 8) K d1_7 rfl ?_
  refine oW.dstore (Ls' := #[.val (.ref a), .val (.ref b), .val (.int (4 : Int32)), .val (.ref a4), .val (.double (0 : UInt64)), .second, .unset, .unset, .unset, .unset, .unset, .unset, .unset, .unset, .unset]) (pc' := 10) K d1_8 rfl rfl ?_
  refine oW.iloadN (pc' := 11) K d1_10 rfl rfl ?_
  refine oW.iconst (v := (1 : Int32)) (pc' := 12) K d1_11 (by decide) rfl ?_
  refine oW.isub (v := (3 : Int32)) (pc' := 13) K d1_12 (by decide) rfl ?_
  refine oW.istore (Ls' := #[.val (.ref a), .val (.ref b), .val (.int (4 : Int32)), .val (.ref a4), .val (.double (0 : UInt64)), .second, .val (.int (3 : Int32)), .unset, .unset, .unset, .unset, .unset, .unset, .unset, .unset]) (pc' := 15) K d1_13 rfl rfl ?_
  refine oW.iload (pc' := 17) K d1_15 rfl rfl ?_
  refine oW.if_lt (pc' := 78) (pc3 := 20) K d1_17 (by decide) (by decide) rfl (fun q => absurd q (by decide)) (fun _ => ?_)
  refine oW.aloadN (pc' := 21) K d1_20 rfl rfl rfl ?_
  refine oW.iload (pc' := 23) K d1_21 rfl rfl ?_
  refine oW.iload (pc' := 25) K d1_23 rfl rfl ?_
  refine oW.iloadN (pc' := 26) K d1_25 rfl rfl ?_
  refine oW.iconst (v := (1 : Int32)) (pc' := 27) K d1_26 (by decide) rfl ?_
  refine oW.isub (v := (3 : Int32)) (pc' := 28) K d1_27 (by decide) rfl ?_
  refine oW.icmp_ne (pc' := 38) (pc3 := 31) K d1_28 (by decide) (by decide) rfl (fun q => absurd q (by decide)) (fun _ => ?_)
  refine oW.aloadN (pc' := 32) K d1_31 rfl rfl rfl ?_
  refine oW.iload (pc' := 34) K d1_32 rfl rfl ?_
  refine oW.daload (i := 0) (k := 3) (pc' := 35) K d1_34 rfl rfl (by decide) rfl rfl ?_
  refine oW.goto (pc' := 62) K d1_35 (by decide) (by decide) ?_
  refine oW.dastore (i := 2) (k := 3) (ds' := [(a, .inl (.double, [(.double s0), (.double s1), (.double s2), (.double s3)])), (b, .inl (.double, [(.double p0), (.double p1), (.double p2), (.double p3)])), (a4, .inl (.double, [(.double (0 : UInt64)), (.double (0 : UInt64)), (.double (0 : UInt64)), (.double s3)]))]) (pc' := 63) K d1_62 rfl rfl (by decide) (Nat.lt_of_sub_eq_succ rfl) rfl rfl ?_
  refine oW.dload (pc' := 65) K d1_63 rfl rfl ?_
  refine oW.aloadN (pc' := 66) K d1_65 rfl rfl rfl ?_
  refine oW.iload (pc' := 68) K d1_66 rfl rfl ?_
  refine oW.daload (i := 1) (k := 3) (pc' := 69) K d1_68 rfl rfl (by decide) rfl rfl ?_
  obtain ⟨v69, ev69⟩ : ∃ t_ : UInt64, t_ = FP.dadd (0 : UInt64) p3 := ⟨_, rfl⟩
  have qv69 : oQ (T2) 5 v69 := ((oQ0 5).add hp3 ev69 (by decide) (by omega)).cast rfl (by omega)
  refine oW.dadd (pc' := 70) K d1_69 ev69 (qv69.nn) rfl ?_
  refine oW.dstore (Ls' := #[.val (.ref a), .val (.ref b), .val (.int (4 : Int32)), .val (.ref a4), .val (.double v69), .second, .val (.int (3 : Int32)), .unset, .unset, .unset, .unset, .unset, .unset, .unset, .unset]) (pc' := 72) K d1_70 rfl rfl ?_
  refine oW.iinc (v := (2 : Int32)) (Ls' := #[.val (.ref a), .val (.ref b), .val (.int (4 : Int32)), .val (.ref a4), .val (.double v69), .second, .val (.int (2 : Int32)), .unset, .unset, .unset, .unset, .unset, .unset, .unset, .unset]) (pc' := 75) K d1_72 rfl (by decide) rfl rfl ?_
  refine oW.goto (pc' := 15) K d1_75 (by decide) (by decide) ?_
  refine oW.iload (pc' := 17) K d1_15 rfl rfl ?_
  refine oW.if_lt (pc' := 78) (pc3 := 20) K d1_17 (by decide) (by decide) rfl (fun q => absurd q (by decide)) (fun _ => ?_)
  refine oW.aloadN (pc' := 21) K d1_20 rfl rfl rfl ?_
  refine oW.iload (pc' := 23) K d1_21 rfl rfl ?_
  refine oW.iload (pc' := 25) K d1_23 rfl rfl ?_
  refine oW.iloadN (pc' := 26) K d1_25 rfl rfl ?_
  refine oW.iconst (v := (1 : Int32)) (pc' := 27) K d1_26 (by decide) rfl ?_
  refine oW.isub (v := (3 : Int32)) (pc' := 28) K d1_27 (by decide) rfl ?_
  refine oW.icmp_ne (pc' := 38) (pc3 := 31) K d1_28 (by decide) (by decide) rfl (fun _ => ?_) (fun q => absurd q (by decide))
  refine oW.aloadN (pc' := 39) K d1_38 rfl rfl rfl ?_
  refine oW.iload (pc' := 41) K d1_39 rfl rfl ?_
  refine oW.daload (i := 0) (k := 2) (pc' := 42) K d1_41 rfl rfl (by decide) rfl rfl ?_
  refine oW.aloadN (pc' := 43) K d1_42 rfl rfl rfl ?_
  refine oW.iload (pc' := 45) K d1_43 rfl rfl ?_
  refine oW.iconst (v := (1 : Int32)) (pc' := 46) K d1_45 (by decide) rfl ?_
  refine oW.iadd (v := (3 : Int32)) (pc' := 47) K d1_46 (by decide) rfl ?_
  refine oW.daload (i := 0) (k := 3) (pc' := 48) K d1_47 rfl rfl (by decide) rfl rfl ?_
  refine oW.aloadN (pc' := 49) K d1_48 rfl rfl rfl ?_
  refine oW.iload (pc' := 51) K d1_49 rfl rfl ?_
  refine oW.daload (i := 0) (k := 2) (pc' := 52) K d1_51 rfl rfl (by decide) rfl rfl ?_
  obtain ⟨v52, ev52⟩ : ∃ t_ : UInt64, t_ = FP.dsub s3 s2 := ⟨_, rfl⟩
  have qv52 : oQ (g3) 0 v52 := (hs3.sub hs2 ev52 (by decide) (by omega)).cast rfl hg2
  refine oW.dsub (pc' := 53) K d1_52 ev52 (qv52.nn) rfl ?_
  refine oW.dload (pc' := 55) K d1_53 rfl rfl ?_
  obtain ⟨v55, ev55⟩ : ∃ t_ : UInt64, t_ = FP.dmul v52 v69 := ⟨_, rfl⟩
  have qv55 : oQ (g3 * T2) 5 v55 := (qv52.mul qv69 ev55 (by decide) (by omega)).cast rfl rfl
  refine oW.dmul (pc' := 56) K d1_55 ev55 (qv55.nn) rfl ?_
  refine oW.aloadN (pc' := 57) K d1_56 rfl rfl rfl ?_
  refine oW.iload (pc' := 59) K d1_57 rfl rfl ?_
  refine oW.daload (i := 1) (k := 2) (pc' := 60) K d1_59 rfl rfl (by decide) rfl rfl ?_
  obtain ⟨v60, ev60⟩ : ∃ t_ : UInt64, t_ = FP.ddiv v55 p2 := ⟨_, rfl⟩
  have qv60 : oQ (g3 * T2 * c2) 3 v60 := qv55.divx hp2 ev60 _ 3 (by omega) (by decide) (by decide) (by decide) (by omega) (oDc hc2)
  refine oW.ddiv (pc' := 61) K d1_60 ev60 (qv60.nn) rfl ?_
  obtain ⟨v61, ev61⟩ : ∃ t_ : UInt64, t_ = FP.dsub s2 v60 := ⟨_, rfl⟩
  have qv61 : oQ (R2) 3 v61 := ((hs2.up 3 rfl (by decide) rfl).sub qv60 ev61 (by decide) (by rw [show ((2 ^ 3 : Nat) : Int) = 8 by rfl]; omega)).cast rfl hR2
  refine oW.dsub (pc' := 62) K d1_61 ev61 (qv61.nn) rfl ?_
  refine oW.dastore (i := 2) (k := 2) (ds' := [(a, .inl (.double, [(.double s0), (.double s1), (.double s2), (.double s3)])), (b, .inl (.double, [(.double p0), (.double p1), (.double p2), (.double p3)])), (a4, .inl (.double, [(.double (0 : UInt64)), (.double (0 : UInt64)), (.double v61), (.double s3)]))]) (pc' := 63) K d1_62 rfl rfl (by decide) (Nat.lt_of_sub_eq_succ rfl) rfl rfl ?_
  refine oW.dload (pc' := 65) K d1_63 rfl rfl ?_
  refine oW.aloadN (pc' := 66) K d1_65 rfl rfl rfl ?_
  refine oW.iload (pc' := 68) K d1_66 rfl rfl ?_
  refine oW.daload (i := 1) (k := 2) (pc' := 69) K d1_68 rfl rfl (by decide) rfl rfl ?_
  obtain ⟨v69_1, ev69_1⟩ : ∃ t_ : UInt64, t_ = FP.dadd v69 p2 := ⟨_, rfl⟩
  have qv69_1 : oQ (T1) 5 v69_1 := (qv69.add hp2 ev69_1 (by decide) (by omega)).cast rfl (by omega)
  refine oW.dadd (pc' := 70) K d1_69 ev69_1 (qv69_1.nn) rfl ?_
  refine oW.dstore (Ls' := #[.val (.ref a), .val (.ref b), .val (.int (4 : Int32)), .val (.ref a4), .val (.double v69_1), .second, .val (.int (2 : Int32)), .unset, .unset, .unset, .unset, .unset, .unset, .unset, .unset]) (pc' := 72) K d1_70 rfl rfl ?_
  refine oW.iinc (v := (1 : Int32)) (Ls' := #[.val (.ref a), .val (.ref b), .val (.int (4 : Int32)), .val (.ref a4), .val (.double v69_1), .second, .val (.int (1 : Int32)), .unset, .unset, .unset, .unset, .unset, .unset, .unset, .unset]) (pc' := 75) K d1_72 rfl (by decide) rfl rfl ?_
  refine oW.goto (pc' := 15) K d1_75 (by decide) (by decide) ?_
  refine oW.iload (pc' := 17) K d1_15 rfl rfl ?_
  refine oW.if_lt (pc' := 78) (pc3 := 20) K d1_17 (by decide) (by decide) rfl (fun q => absurd q (by decide)) (fun _ => ?_)
  refine oW.aloadN (pc' := 21) K d1_20 rfl rfl rfl ?_
  refine oW.iload (pc' := 23) K d1_21 rfl rfl ?_
  refine oW.iload (pc' := 25) K d1_23 rfl rfl ?_
  refine oW.iloadN (pc' := 26) K d1_25 rfl rfl ?_
  refine oW.iconst (v := (1 : Int32)) (pc' := 27) K d1_26 (by decide) rfl ?_
  refine oW.isub (v := (3 : Int32)) (pc' := 28) K d1_27 (by decide) rfl ?_
  refine oW.icmp_ne (pc' := 38) (pc3 := 31) K d1_28 (by decide) (by decide) rfl (fun _ => ?_) (fun q => absurd q (by decide))
  refine oW.aloadN (pc' := 39) K d1_38 rfl rfl rfl ?_
  refine oW.iload (pc' := 41) K d1_39 rfl rfl ?_
  refine oW.daload (i := 0) (k := 1) (pc' := 42) K d1_41 rfl rfl (by decide) rfl rfl ?_
  refine oW.aloadN (pc' := 43) K d1_42 rfl rfl rfl ?_
  refine oW.iload (pc' := 45) K d1_43 rfl rfl ?_
  refine oW.iconst (v := (1 : Int32)) (pc' := 46) K d1_45 (by decide) rfl ?_
  refine oW.iadd (v := (2 : Int32)) (pc' := 47) K d1_46 (by decide) rfl ?_
  refine oW.daload (i := 0) (k := 2) (pc' := 48) K d1_47 rfl rfl (by decide) rfl rfl ?_
  refine oW.aloadN (pc' := 49) K d1_48 rfl rfl rfl ?_
  refine oW.iload (pc' := 51) K d1_49 rfl rfl ?_
  refine oW.daload (i := 0) (k := 1) (pc' := 52) K d1_51 rfl rfl (by decide) rfl rfl ?_
  obtain ⟨v52_1, ev52_1⟩ : ∃ t_ : UInt64, t_ = FP.dsub s2 s1 := ⟨_, rfl⟩
  have qv52_1 : oQ (g2) 0 v52_1 := (hs2.sub hs1 ev52_1 (by decide) (by omega)).cast rfl hg1
  refine oW.dsub (pc' := 53) K d1_52 ev52_1 (qv52_1.nn) rfl ?_
  refine oW.dload (pc' := 55) K d1_53 rfl rfl ?_
  obtain ⟨v55_1, ev55_1⟩ : ∃ t_ : UInt64, t_ = FP.dmul v52_1 v69_1 := ⟨_, rfl⟩
  have qv55_1 : oQ (g2 * T1) 5 v55_1 := (qv52_1.mul qv69_1 ev55_1 (by decide) (by omega)).cast rfl rfl
  refine oW.dmul (pc' := 56) K d1_55 ev55_1 (qv55_1.nn) rfl ?_
  refine oW.aloadN (pc' := 57) K d1_56 rfl rfl rfl ?_
  refine oW.iload (pc' := 59) K d1_57 rfl rfl ?_
  refine oW.daload (i := 1) (k := 1) (pc' := 60) K d1_59 rfl rfl (by decide) rfl rfl ?_
  obtain ⟨v60_1, ev60_1⟩ : ∃ t_ : UInt64, t_ = FP.ddiv v55_1 p1 := ⟨_, rfl⟩
  have qv60_1 : oQ (g2 * T1 * c1) 3 v60_1 := qv55_1.divx hp1 ev60_1 _ 3 (by omega) (by decide) (by decide) (by decide) (by omega) (oDc hc1)
  refine oW.ddiv (pc' := 61) K d1_60 ev60_1 (qv60_1.nn) rfl ?_
  obtain ⟨v61_1, ev61_1⟩ : ∃ t_ : UInt64, t_ = FP.dsub s1 v60_1 := ⟨_, rfl⟩
  have qv61_1 : oQ (R1) 3 v61_1 := ((hs1.up 3 rfl (by decide) rfl).sub qv60_1 ev61_1 (by decide) (by rw [show ((2 ^ 3 : Nat) : Int) = 8 by rfl]; omega)).cast rfl hR1
  refine oW.dsub (pc' := 62) K d1_61 ev61_1 (qv61_1.nn) rfl ?_
  refine oW.dastore (i := 2) (k := 1) (ds' := [(a, .inl (.double, [(.double s0), (.double s1), (.double s2), (.double s3)])), (b, .inl (.double, [(.double p0), (.double p1), (.double p2), (.double p3)])), (a4, .inl (.double, [(.double (0 : UInt64)), (.double v61_1), (.double v61), (.double s3)]))]) (pc' := 63) K d1_62 rfl rfl (by decide) (Nat.lt_of_sub_eq_succ rfl) rfl rfl ?_
  refine oW.dload (pc' := 65) K d1_63 rfl rfl ?_
  refine oW.aloadN (pc' := 66) K d1_65 rfl rfl rfl ?_
  refine oW.iload (pc' := 68) K d1_66 rfl rfl ?_
  refine oW.daload (i := 1) (k := 1) (pc' := 69) K d1_68 rfl rfl (by decide) rfl rfl ?_
  obtain ⟨v69_2, ev69_2⟩ : ∃ t_ : UInt64, t_ = FP.dadd v69_1 p1 := ⟨_, rfl⟩
  have qv69_2 : oQ (T0) 5 v69_2 := (qv69_1.add hp1 ev69_2 (by decide) (by omega)).cast rfl (by omega)
  refine oW.dadd (pc' := 70) K d1_69 ev69_2 (qv69_2.nn) rfl ?_
  refine oW.dstore (Ls' := #[.val (.ref a), .val (.ref b), .val (.int (4 : Int32)), .val (.ref a4), .val (.double v69_2), .second, .val (.int (1 : Int32)), .unset, .unset, .unset, .unset, .unset, .unset, .unset, .unset]) (pc' := 72) K d1_70 rfl rfl ?_
  refine oW.iinc (v := (0 : Int32)) (Ls' := #[.val (.ref a), .val (.ref b), .val (.int (4 : Int32)), .val (.ref a4), .val (.double v69_2), .second, .val (.int (0 : Int32)), .unset, .unset, .unset, .unset, .unset, .unset, .unset, .unset]) (pc' := 75) K d1_72 rfl (by decide) rfl rfl ?_
  refine oW.goto (pc' := 15) K d1_75 (by decide) (by decide) ?_
  refine oW.iload (pc' := 17) K d1_15 rfl rfl ?_
  refine oW.if_lt (pc' := 78) (pc3 := 20) K d1_17 (by decide) (by decide) rfl (fun q => absurd q (by decide)) (fun _ => ?_)
  refine oW.aloadN (pc' := 21) K d1_20 rfl rfl rfl ?_
  refine oW.iload (pc' := 23) K d1_21 rfl rfl ?_
  refine oW.iload (pc' := 25) K d1_23 rfl rfl ?_
  refine oW.iloadN (pc' := 26) K d1_25 rfl rfl ?_
  refine oW.iconst (v := (1 : Int32)) (pc' := 27) K d1_26 (by decide) rfl ?_
  refine oW.isub (v := (3 : Int32)) (pc' := 28) K d1_27 (by decide) rfl ?_
  refine oW.icmp_ne (pc' := 38) (pc3 := 31) K d1_28 (by decide) (by decide) rfl (fun _ => ?_) (fun q => absurd q (by decide))
  refine oW.aloadN (pc' := 39) K d1_38 rfl rfl rfl ?_
  refine oW.iload (pc' := 41) K d1_39 rfl rfl ?_
  refine oW.daload (i := 0) (k := 0) (pc' := 42) K d1_41 rfl rfl (by decide) rfl rfl ?_
  refine oW.aloadN (pc' := 43) K d1_42 rfl rfl rfl ?_
  refine oW.iload (pc' := 45) K d1_43 rfl rfl ?_
  refine oW.iconst (v := (1 : Int32)) (pc' := 46) K d1_45 (by decide) rfl ?_
  refine oW.iadd (v := (1 : Int32)) (pc' := 47) K d1_46 (by decide) rfl ?_
  refine oW.daload (i := 0) (k := 1) (pc' := 48) K d1_47 rfl rfl (by decide) rfl rfl ?_
  refine oW.aloadN (pc' := 49) K d1_48 rfl rfl rfl ?_
  refine oW.iload (pc' := 51) K d1_49 rfl rfl ?_
  refine oW.daload (i := 0) (k := 0) (pc' := 52) K d1_51 rfl rfl (by decide) rfl rfl ?_
  obtain ⟨v52_2, ev52_2⟩ : ∃ t_ : UInt64, t_ = FP.dsub s1 s0 := ⟨_, rfl⟩
  have qv52_2 : oQ (g1) 0 v52_2 := (hs1.sub hs0 ev52_2 (by decide) (by omega)).cast rfl hg0
  refine oW.dsub (pc' := 53) K d1_52 ev52_2 (qv52_2.nn) rfl ?_
  refine oW.dload (pc' := 55) K d1_53 rfl rfl ?_
  obtain ⟨v55_2, ev55_2⟩ : ∃ t_ : UInt64, t_ = FP.dmul v52_2 v69_2 := ⟨_, rfl⟩
  have qv55_2 : oQ (g1 * T0) 5 v55_2 := (qv52_2.mul qv69_2 ev55_2 (by decide) (by omega)).cast rfl rfl
  refine oW.dmul (pc' := 56) K d1_55 ev55_2 (qv55_2.nn) rfl ?_
  refine oW.aloadN (pc' := 57) K d1_56 rfl rfl rfl ?_
  refine oW.iload (pc' := 59) K d1_57 rfl rfl ?_
  refine oW.daload (i := 1) (k := 0) (pc' := 60) K d1_59 rfl rfl (by decide) rfl rfl ?_
  obtain ⟨v60_2, ev60_2⟩ : ∃ t_ : UInt64, t_ = FP.ddiv v55_2 p0 := ⟨_, rfl⟩
  have qv60_2 : oQ (g1 * T0 * c0) 3 v60_2 := qv55_2.divx hp0 ev60_2 _ 3 (by omega) (by decide) (by decide) (by decide) (by omega) (oDc hc0)
  refine oW.ddiv (pc' := 61) K d1_60 ev60_2 (qv60_2.nn) rfl ?_
  obtain ⟨v61_2, ev61_2⟩ : ∃ t_ : UInt64, t_ = FP.dsub s0 v60_2 := ⟨_, rfl⟩
  have qv61_2 : oQ (R0) 3 v61_2 := ((hs0.up 3 rfl (by decide) rfl).sub qv60_2 ev61_2 (by decide) (by rw [show ((2 ^ 3 : Nat) : Int) = 8 by rfl]; omega)).cast rfl hR0
  refine oW.dsub (pc' := 62) K d1_61 ev61_2 (qv61_2.nn) rfl ?_
  refine oW.dastore (i := 2) (k := 0) (ds' := [(a, .inl (.double, [(.double s0), (.double s1), (.double s2), (.double s3)])), (b, .inl (.double, [(.double p0), (.double p1), (.double p2), (.double p3)])), (a4, .inl (.double, [(.double v61_2), (.double v61_1), (.double v61), (.double s3)]))]) (pc' := 63) K d1_62 rfl rfl (by decide) (Nat.lt_of_sub_eq_succ rfl) rfl rfl ?_
  refine oW.dload (pc' := 65) K d1_63 rfl rfl ?_
  refine oW.aloadN (pc' := 66) K d1_65 rfl rfl rfl ?_
  refine oW.iload (pc' := 68) K d1_66 rfl rfl ?_
  refine oW.daload (i := 1) (k := 0) (pc' := 69) K d1_68 rfl rfl (by decide) rfl rfl ?_
  obtain ⟨v69_3, ev69_3⟩ : ∃ t_ : UInt64, t_ = FP.dadd v69_2 p0 := ⟨_, rfl⟩
  have qv69_3 : oQ (T0 + q0) 5 v69_3 := (qv69_2.add hp0 ev69_3 (by decide) (by omega)).cast rfl (by omega)
  refine oW.dadd (pc' := 70) K d1_69 ev69_3 (qv69_3.nn) rfl ?_
  refine oW.dstore (Ls' := #[.val (.ref a), .val (.ref b), .val (.int (4 : Int32)), .val (.ref a4), .val (.double v69_3), .second, .val (.int (0 : Int32)), .unset, .unset, .unset, .unset, .unset, .unset, .unset, .unset]) (pc' := 72) K d1_70 rfl rfl ?_
  refine oW.iinc (v := (-1 : Int32)) (Ls' := #[.val (.ref a), .val (.ref b), .val (.int (4 : Int32)), .val (.ref a4), .val (.double v69_3), .second, .val (.int (-1 : Int32)), .unset, .unset, .unset, .unset, .unset, .unset, .unset, .unset]) (pc' := 75) K d1_72 rfl (by decide) rfl rfl ?_
  refine oW.goto (pc' := 15) K d1_75 (by decide) (by decide) ?_
  refine oW.iload (pc' := 17) K d1_15 rfl rfl ?_
  refine oW.if_lt (pc' := 78) (pc3 := 20) K d1_17 (by decide) (by decide) rfl (fun _ => ?_) (fun q => absurd q (by decide))
  refine oW.iloadN (pc' := 79) K d1_78 rfl rfl ?_
  refine oW.newarr (n := 4) (cells' := 2) (slots' := 8) (dsf := fun z => [(a, .inl (.double, [(.double s0), (.double s1), (.double s2), (.double s3)])), (b, .inl (.double, [(.double p0), (.double p1), (.double p2), (.double p3)])), (a4, .inl (.double, [(.double v61_2), (.double v61_1), (.double v61), (.double s3)])), (z, .inl (.int, [(.int (0 : Int32)), (.int (0 : Int32)), (.int (0 : Int32)), (.int (0 : Int32))]))]) (pc' := 81) K (hw _ (List.mem_of_getElem? (i := 8) rfl)) d1_79 rfl (by decide) (by decide) (by decide) (by decide) rfl rfl (fun _ => rfl) rfl ?_
  intro a79 ha79
  refine oW.astore (Ls' := #[.val (.ref a), .val (.ref b), .val (.int (4 : Int32)), .val (.ref a4), .val (.double v69_3), .second, .val (.ref a79), .unset, .unset, .unset, .unset, .unset, .unset, .unset, .unset]) (pc' := 83) K d1_81 rfl rfl rfl ?_
  refine oW.iloadN (pc' := 84) K d1_83 rfl rfl ?_
  refine oW.newarr (n := 4) (cells' := 3) (slots' := 12) (dsf := fun z => [(a, .inl (.double, [(.double s0), (.double s1), (.double s2), (.double s3)])), (b, .inl (.double, [(.double p0), (.double p1), (.double p2), (.double p3)])), (a4, .inl (.double, [(.double v61_2), (.double v61_1), (.double v61), (.double s3)])), (a79, .inl (.int, [(.int (0 : Int32)), (.int (0 : Int32)), (.int (0 : Int32)), (.int (0 : Int32))])), (z, .inl (.double, [(.double (0 : UInt64)), (.double (0 : UInt64)), (.double (0 : UInt64)), (.double (0 : UInt64))]))]) (pc' := 86) K (hw _ (List.mem_of_getElem? (i := 2) rfl)) d1_84 rfl (by decide) (by decide) (by decide) (by decide) rfl rfl (fun _ => rfl) rfl ?_
  intro a84 ha84
  refine oW.astore (Ls' := #[.val (.ref a), .val (.ref b), .val (.int (4 : Int32)), .val (.ref a4), .val (.double v69_3), .second, .val (.ref a79), .val (.ref a84), .unset, .unset, .unset, .unset, .unset, .unset, .unset]) (pc' := 88) K d1_86 rfl rfl rfl ?_
  refine oW.iloadN (pc' := 89) K d1_88 rfl rfl ?_
  refine oW.newarr (n := 4) (cells' := 4) (slots' := 16) (dsf := fun z => [(a, .inl (.double, [(.double s0), (.double s1), (.double s2), (.double s3)])), (b, .inl (.double, [(.double p0), (.double p1), (.double p2), (.double p3)])), (a4, .inl (.double, [(.double v61_2), (.double v61_1), (.double v61), (.double s3)])), (a79, .inl (.int, [(.int (0 : Int32)), (.int (0 : Int32)), (.int (0 : Int32)), (.int (0 : Int32))])), (a84, .inl (.double, [(.double (0 : UInt64)), (.double (0 : UInt64)), (.double (0 : UInt64)), (.double (0 : UInt64))])), (z, .inl (.double, [(.double (0 : UInt64)), (.double (0 : UInt64)), (.double (0 : UInt64)), (.double (0 : UInt64))]))]) (pc' := 91) K (hw _ (List.mem_of_getElem? (i := 2) rfl)) d1_89 rfl (by decide) (by decide) (by decide) (by decide) rfl rfl (fun _ => rfl) rfl ?_
  intro a89 ha89
  refine oW.astore (Ls' := #[.val (.ref a), .val (.ref b), .val (.int (4 : Int32)), .val (.ref a4), .val (.double v69_3), .second, .val (.ref a79), .val (.ref a84), .val (.ref a89), .unset, .unset, .unset, .unset, .unset, .unset]) (pc' := 93) K d1_91 rfl rfl rfl ?_
  refine oW.iconst (v := (0 : Int32)) (pc' := 94) K d1_93 (by decide) rfl ?_
  refine oW.istore (Ls' := #[.val (.ref a), .val (.ref b), .val (.int (4 : Int32)), .val (.ref a4), .val (.double v69_3), .second, .val (.ref a79), .val (.ref a84), .val (.ref a89), .val (.int (0 : Int32)), .unset, .unset, .unset, .unset, .unset]) (pc' := 96) K d1_94 rfl rfl ?_
  refine oW.iconst (v := (0 : Int32)) (pc' := 97) K d1_96 (by decide) rfl ?_
  refine oW.istore (Ls' := #[.val (.ref a), .val (.ref b), .val (.int (4 : Int32)), .val (.ref a4), .val (.double v69_3), .second, .val (.ref a79), .val (.ref a84), .val (.ref a89), .val (.int (0 : Int32)), .val (.int (0 : Int32)), .unset, .unset, .unset, .unset]) (pc' := 99) K d1_97 rfl rfl ?_
  refine oW.iload (pc' := 101) K d1_99 rfl rfl ?_
  refine oW.iloadN (pc' := 102) K d1_101 rfl rfl ?_
  refine oW.icmp_ge (pc' := 224) (pc3 := 105) K d1_102 (by decide) (by decide) rfl (fun q => absurd q (by decide)) (fun _ => ?_)
  refine oW.aload (pc' := 107) K d1_105 rfl rfl rfl ?_
  refine oW.iload (pc' := 109) K d1_107 rfl rfl ?_
  refine oW.iload (pc' := 111) K d1_109 rfl rfl ?_
  refine oW.iastore (i := 3) (k := 0) (ds' := [(a, .inl (.double, [(.double s0), (.double s1), (.double s2), (.double s3)])), (b, .inl (.double, [(.double p0), (.double p1), (.double p2), (.double p3)])), (a4, .inl (.double, [(.double v61_2), (.double v61_1), (.double v61), (.double s3)])), (a79, .inl (.int, [(.int (0 : Int32)), (.int (0 : Int32)), (.int (0 : Int32)), (.int (0 : Int32))])), (a84, .inl (.double, [(.double (0 : UInt64)), (.double (0 : UInt64)), (.double (0 : UInt64)), (.double (0 : UInt64))])), (a89, .inl (.double, [(.double (0 : UInt64)), (.double (0 : UInt64)), (.double (0 : UInt64)), (.double (0 : UInt64))]))]) (pc' := 112) K d1_111 rfl rfl (by decide) (Nat.lt_of_sub_eq_succ rfl) rfl rfl ?_
  refine oW.aload (pc' := 114) K d1_112 rfl rfl rfl ?_
  refine oW.iload (pc' := 116) K d1_114 rfl rfl ?_
  refine oW.aloadN (pc' := 117) K d1_116 rfl rfl rfl ?_
  refine oW.iload (pc' := 119) K d1_117 rfl rfl ?_
  refine oW.daload (i := 1) (k := 0) (pc' := 120) K d1_119 rfl rfl (by decide) rfl rfl ?_
  refine oW.dastore (i := 4) (k := 0) (ds' := [(a, .inl (.double, [(.double s0), (.double s1), (.double s2), (.double s3)])), (b, .inl (.double, [(.double p0), (.double p1), (.double p2), (.double p3)])), (a4, .inl (.double, [(.double v61_2), (.double v61_1), (.double v61), (.double s3)])), (a79, .inl (.int, [(.int (0 : Int32)), (.int (0 : Int32)), (.int (0 : Int32)), (.int (0 : Int32))])), (a84, .inl (.double, [(.double p0), (.double (0 : UInt64)), (.double (0 : UInt64)), (.double (0 : UInt64))])), (a89, .inl (.double, [(.double (0 : UInt64)), (.double (0 : UInt64)), (.double (0 : UInt64)), (.double (0 : UInt64))]))]) (pc' := 121) K d1_120 rfl rfl (by decide) (Nat.lt_of_sub_eq_succ rfl) rfl rfl ?_
  refine oW.aload (pc' := 123) K d1_121 rfl rfl rfl ?_
  refine oW.iload (pc' := 125) K d1_123 rfl rfl ?_
  refine oW.aloadN (pc' := 126) K d1_125 rfl rfl rfl ?_
  refine oW.iload (pc' := 128) K d1_126 rfl rfl ?_
  refine oW.daload (i := 1) (k := 0) (pc' := 129) K d1_128 rfl rfl (by decide) rfl rfl ?_
  refine oW.aloadN (pc' := 130) K d1_129 rfl rfl rfl ?_
  refine oW.iload (pc' := 132) K d1_130 rfl rfl ?_
  refine oW.daload (i := 2) (k := 0) (pc' := 133) K d1_132 rfl rfl (by decide) rfl rfl ?_
  obtain ⟨v133, ev133⟩ : ∃ t_ : UInt64, t_ = FP.dmul p0 v61_2 := ⟨_, rfl⟩
  have qv133 : oQ (q0 * R0) 8 v133 := (hp0.mul qv61_2 ev133 (by decide) (by omega)).cast rfl rfl
  refine oW.dmul (pc' := 134) K d1_133 ev133 (qv133.nn) rfl ?_
  refine oW.dastore (i := 5) (k := 0) (ds' := [(a, .inl (.double, [(.double s0), (.double s1), (.double s2), (.double s3)])), (b, .inl (.double, [(.double p0), (.double p1), (.double p2), (.double p3)])), (a4, .inl (.double, [(.double v61_2), (.double v61_1), (.double v61), (.double s3)])), (a79, .inl (.int, [(.int (0 : Int32)), (.int (0 : Int32)), (.int (0 : Int32)), (.int (0 : Int32))])), (a84, .inl (.double, [(.double p0), (.double (0 : UInt64)), (.double (0 : UInt64)), (.double (0 : UInt64))])), (a89, .inl (.double, [(.double v133), (.double (0 : UInt64)), (.double (0 : UInt64)), (.double (0 : UInt64))]))]) (pc' := 135) K d1_134 rfl rfl (by decide) (Nat.lt_of_sub_eq_succ rfl) rfl rfl ?_
  refine oW.iinc (v := (1 : Int32)) (Ls' := #[.val (.ref a), .val (.ref b), .val (.int (4 : Int32)), .val (.ref a4), .val (.double v69_3), .second, .val (.ref a79), .val (.ref a84), .val (.ref a89), .val (.int (1 : Int32)), .val (.int (0 : Int32)), .unset, .unset, .unset, .unset]) (pc' := 138) K d1_135 rfl (by decide) rfl rfl ?_
  refine oW.iload (pc' := 140) K d1_138 rfl rfl ?_
  refine oW.iconst (v := (1 : Int32)) (pc' := 141) K d1_140 (by decide) rfl ?_
  refine oW.icmp_le (pc' := 218) (pc3 := 144) K d1_141 (by decide) (by decide) rfl (fun _ => ?_) (fun q => absurd q (by decide))
  refine oW.iinc (v := (1 : Int32)) (Ls' := #[.val (.ref a), .val (.ref b), .val (.int (4 : Int32)), .val (.ref a4), .val (.double v69_3), .second, .val (.ref a79), .val (.ref a84), .val (.ref a89), .val (.int (1 : Int32)), .val (.int (1 : Int32)), .unset, .unset, .unset, .unset]) (pc' := 221) K d1_218 rfl (by decide) rfl rfl ?_
  refine oW.goto (pc' := 99) K d1_221 (by decide) (by decide) ?_
  refine oW.iload (pc' := 101) K d1_99 rfl rfl ?_
  refine oW.iloadN (pc' := 102) K d1_101 rfl rfl ?_
  refine oW.icmp_ge (pc' := 224) (pc3 := 105) K d1_102 (by decide) (by decide) rfl (fun q => absurd q (by decide)) (fun _ => ?_)
  refine oW.aload (pc' := 107) K d1_105 rfl rfl rfl ?_
  refine oW.iload (pc' := 109) K d1_107 rfl rfl ?_
  refine oW.iload (pc' := 111) K d1_109 rfl rfl ?_
  refine oW.iastore (i := 3) (k := 1) (ds' := [(a, .inl (.double, [(.double s0), (.double s1), (.double s2), (.double s3)])), (b, .inl (.double, [(.double p0), (.double p1), (.double p2), (.double p3)])), (a4, .inl (.double, [(.double v61_2), (.double v61_1), (.double v61), (.double s3)])), (a79, .inl (.int, [(.int (0 : Int32)), (.int (1 : Int32)), (.int (0 : Int32)), (.int (0 : Int32))])), (a84, .inl (.double, [(.double p0), (.double (0 : UInt64)), (.double (0 : UInt64)), (.double (0 : UInt64))])), (a89, .inl (.double, [(.double v133), (.double (0 : UInt64)), (.double (0 : UInt64)), (.double (0 : UInt64))]))]) (pc' := 112) K d1_111 rfl rfl (by decide) (Nat.lt_of_sub_eq_succ rfl) rfl rfl ?_
  refine oW.aload (pc' := 114) K d1_112 rfl rfl rfl ?_
  refine oW.iload (pc' := 116) K d1_114 rfl rfl ?_
  refine oW.aloadN (pc' := 117) K d1_116 rfl rfl rfl ?_
  refine oW.iload (pc' := 119) K d1_117 rfl rfl ?_
  refine oW.daload (i := 1) (k := 1) (pc' := 120) K d1_119 rfl rfl (by decide) rfl rfl ?_
  refine oW.dastore (i := 4) (k := 1) (ds' := [(a, .inl (.double, [(.double s0), (.double s1), (.double s2), (.double s3)])), (b, .inl (.double, [(.double p0), (.double p1), (.double p2), (.double p3)])), (a4, .inl (.double, [(.double v61_2), (.double v61_1), (.double v61), (.double s3)])), (a79, .inl (.int, [(.int (0 : Int32)), (.int (1 : Int32)), (.int (0 : Int32)), (.int (0 : Int32))])), (a84, .inl (.double, [(.double p0), (.double p1), (.double (0 : UInt64)), (.double (0 : UInt64))])), (a89, .inl (.double, [(.double v133), (.double (0 : UInt64)), (.double (0 : UInt64)), (.double (0 : UInt64))]))]) (pc' := 121) K d1_120 rfl rfl (by decide) (Nat.lt_of_sub_eq_succ rfl) rfl rfl ?_
  refine oW.aload (pc' := 123) K d1_121 rfl rfl rfl ?_
  refine oW.iload (pc' := 125) K d1_123 rfl rfl ?_
  refine oW.aloadN (pc' := 126) K d1_125 rfl rfl rfl ?_
  refine oW.iload (pc' := 128) K d1_126 rfl rfl ?_
  refine oW.daload (i := 1) (k := 1) (pc' := 129) K d1_128 rfl rfl (by decide) rfl rfl ?_
  refine oW.aloadN (pc' := 130) K d1_129 rfl rfl rfl ?_
  refine oW.iload (pc' := 132) K d1_130 rfl rfl ?_
  refine oW.daload (i := 2) (k := 1) (pc' := 133) K d1_132 rfl rfl (by decide) rfl rfl ?_
  obtain ⟨v133_1, ev133_1⟩ : ∃ t_ : UInt64, t_ = FP.dmul p1 v61_1 := ⟨_, rfl⟩
  have qv133_1 : oQ (q1 * R1) 8 v133_1 := (hp1.mul qv61_1 ev133_1 (by decide) (by omega)).cast rfl rfl
  refine oW.dmul (pc' := 134) K d1_133 ev133_1 (qv133_1.nn) rfl ?_
  refine oW.dastore (i := 5) (k := 1) (ds' := [(a, .inl (.double, [(.double s0), (.double s1), (.double s2), (.double s3)])), (b, .inl (.double, [(.double p0), (.double p1), (.double p2), (.double p3)])), (a4, .inl (.double, [(.double v61_2), (.double v61_1), (.double v61), (.double s3)])), (a79, .inl (.int, [(.int (0 : Int32)), (.int (1 : Int32)), (.int (0 : Int32)), (.int (0 : Int32))])), (a84, .inl (.double, [(.double p0), (.double p1), (.double (0 : UInt64)), (.double (0 : UInt64))])), (a89, .inl (.double, [(.double v133), (.double v133_1), (.double (0 : UInt64)), (.double (0 : UInt64))]))]) (pc' := 135) K d1_134 rfl rfl (by decide) (Nat.lt_of_sub_eq_succ rfl) rfl rfl ?_
  refine oW.iinc (v := (2 : Int32)) (Ls' := #[.val (.ref a), .val (.ref b), .val (.int (4 : Int32)), .val (.ref a4), .val (.double v69_3), .second, .val (.ref a79), .val (.ref a84), .val (.ref a89), .val (.int (2 : Int32)), .val (.int (1 : Int32)), .unset, .unset, .unset, .unset]) (pc' := 138) K d1_135 rfl (by decide) rfl rfl ?_
  refine oW.iload (pc' := 140) K d1_138 rfl rfl ?_
  refine oW.iconst (v := (1 : Int32)) (pc' := 141) K d1_140 (by decide) rfl ?_
  refine oW.icmp_le (pc' := 218) (pc3 := 144) K d1_141 (by decide) (by decide) rfl (fun q => absurd q (by decide)) (fun _ => ?_)
  refine oW.aload (pc' := 146) K d1_144 rfl rfl rfl ?_
  refine oW.iload (pc' := 148) K d1_146 rfl rfl ?_
  refine oW.iconst (v := (2 : Int32)) (pc' := 149) K d1_148 (by decide) rfl ?_
  refine oW.isub (v := (0 : Int32)) (pc' := 150) K d1_149 (by decide) rfl ?_
  refine oW.daload (i := 5) (k := 0) (pc' := 151) K d1_150 rfl rfl (by decide) rfl rfl ?_
  refine oW.aload (pc' := 153) K d1_151 rfl rfl rfl ?_
  refine oW.iload (pc' := 155) K d1_153 rfl rfl ?_
  refine oW.iconst (v := (2 : Int32)) (pc' := 156) K d1_155 (by decide) rfl ?_
  refine oW.isub (v := (0 : Int32)) (pc' := 157) K d1_156 (by decide) rfl ?_
  refine oW.daload (i := 4) (k := 0) (pc' := 158) K d1_157 rfl rfl (by decide) rfl rfl ?_
  obtain ⟨v158, ev158⟩ : ∃ t_ : UInt64, t_ = FP.ddiv v133 p0 := ⟨_, rfl⟩
  have qv158 : oQ (R0) 3 v158 := qv133.divx hp0 ev158 _ 3 (by omega) (by decide) (by decide) (by decide) (by omega) oD83
  refine oW.ddiv (pc' := 159) K d1_158 ev158 (qv158.nn) rfl ?_
  refine oW.aload (pc' := 161) K d1_159 rfl rfl rfl ?_
  refine oW.iload (pc' := 163) K d1_161 rfl rfl ?_
  refine oW.iconst (v := (1 : Int32)) (pc' := 164) K d1_163 (by decide) rfl ?_
  refine oW.isub (v := (1 : Int32)) (pc' := 165) K d1_164 (by decide) rfl ?_
  refine oW.daload (i := 5) (k := 1) (pc' := 166) K d1_165 rfl rfl (by decide) rfl rfl ?_
  refine oW.aload (pc' := 168) K d1_166 rfl rfl rfl ?_
  refine oW.iload (pc' := 170) K d1_168 rfl rfl ?_
  refine oW.iconst (v := (1 : Int32)) (pc' := 171) K d1_170 (by decide) rfl ?_
  refine oW.isub (v := (1 : Int32)) (pc' := 172) K d1_171 (by decide) rfl ?_
  refine oW.daload (i := 4) (k := 1) (pc' := 173) K d1_172 rfl rfl (by decide) rfl rfl ?_
  obtain ⟨v173, ev173⟩ : ∃ t_ : UInt64, t_ = FP.ddiv v133_1 p1 := ⟨_, rfl⟩
  have qv173 : oQ (R1) 3 v173 := qv133_1.divx hp1 ev173 _ 3 (by omega) (by decide) (by decide) (by decide) (by omega) oD83
  refine oW.ddiv (pc' := 174) K d1_173 ev173 (qv173.nn) rfl ?_
  obtain ⟨v174, ev174⟩ : ∃ t_ : Int32, t_ = cmpValue (FP.dcmp v158 v173) .l := ⟨_, rfl⟩
  refine oW.dcmp (pc' := 175) K d1_174 ev174 rfl ?_
  refine oW.if_le (pc' := 218) (pc3 := 178) K d1_175 (by decide) (by decide) rfl (fun c175 => ?_) (fun c175 => ?_)
  · rw [(qv158.cmp qv173 ev174).2.2] at c175
    refine oW.iinc (v := (2 : Int32)) (Ls' := #[.val (.ref a), .val (.ref b), .val (.int (4 : Int32)), .val (.ref a4), .val (.double v69_3), .second, .val (.ref a79), .val (.ref a84), .val (.ref a89), .val (.int (2 : Int32)), .val (.int (2 : Int32)), .unset, .unset, .unset, .unset]) (pc' := 221) K d1_218 rfl (by decide) rfl rfl ?_
    refine oW.goto (pc' := 99) K d1_221 (by decide) (by decide) ?_
    refine oW.iload (pc' := 101) K d1_99 rfl rfl ?_
    refine oW.iloadN (pc' := 102) K d1_101 rfl rfl ?_
    refine oW.icmp_ge (pc' := 224) (pc3 := 105) K d1_102 (by decide) (by decide) rfl (fun q => absurd q (by decide)) (fun _ => ?_)
    refine oW.aload (pc' := 107) K d1_105 rfl rfl rfl ?_
    refine oW.iload (pc' := 109) K d1_107 rfl rfl ?_
    refine oW.iload (pc' := 111) K d1_109 rfl rfl ?_
    refine oW.iastore (i := 3) (k := 2) (ds' := [(a, .inl (.double, [(.double s0), (.double s1), (.double s2), (.double s3)])), (b, .inl (.double, [(.double p0), (.double p1), (.double p2), (.double p3)])), (a4, .inl (.double, [(.double v61_2), (.double v61_1), (.double v61), (.double s3)])), (a79, .inl (.int, [(.int (0 : Int32)), (.int (1 : Int32)), (.int (2 : Int32)), (.int (0 : Int32))])), (a84, .inl (.double, [(.double p0), (.double p1), (.double (0 : UInt64)), (.double (0 : UInt64))])), (a89, .inl (.double, [(.double v133), (.double v133_1), (.double (0 : UInt64)), (.double (0 : UInt64))]))]) (pc' := 112) K d1_111 rfl rfl (by decide) (Nat.lt_of_sub_eq_succ rfl) rfl rfl ?_
    refine oW.aload (pc' := 114) K d1_112 rfl rfl rfl ?_
    refine oW.iload (pc' := 116) K d1_114 rfl rfl ?_
    refine oW.aloadN (pc' := 117) K d1_116 rfl rfl rfl ?_
    refine oW.iload (pc' := 119) K d1_117 rfl rfl ?_
    refine oW.daload (i := 1) (k := 2) (pc' := 120) K d1_119 rfl rfl (by decide) rfl rfl ?_
    refine oW.dastore (i := 4) (k := 2) (ds' := [(a, .inl (.double, [(.double s0), (.double s1), (.double s2), (.double s3)])), (b, .inl (.double, [(.double p0), (.double p1), (.double p2), (.double p3)])), (a4, .inl (.double, [(.double v61_2), (.double v61_1), (.double v61), (.double s3)])), (a79, .inl (.int, [(.int (0 : Int32)), (.int (1 : Int32)), (.int (2 : Int32)), (.int (0 : Int32))])), (a84, .inl (.double, [(.double p0), (.double p1), (.double p2), (.double (0 : UInt64))])), (a89, .inl (.double, [(.double v133), (.double v133_1), (.double (0 : UInt64)), (.double (0 : UInt64))]))]) (pc' := 121) K d1_120 rfl rfl (by decide) (Nat.lt_of_sub_eq_succ rfl) rfl rfl ?_
    refine oW.aload (pc' := 123) K d1_121 rfl rfl rfl ?_
    refine oW.iload (pc' := 125) K d1_123 rfl rfl ?_
    refine oW.aloadN (pc' := 126) K d1_125 rfl rfl rfl ?_
    refine oW.iload (pc' := 128) K d1_126 rfl rfl ?_
    refine oW.daload (i := 1) (k := 2) (pc' := 129) K d1_128 rfl rfl (by decide) rfl rfl ?_
    refine oW.aloadN (pc' := 130) K d1_129 rfl rfl rfl ?_
    refine oW.iload (pc' := 132) K d1_130 rfl rfl ?_
    refine oW.daload (i := 2) (k := 2) (pc' := 133) K d1_132 rfl rfl (by decide) rfl rfl ?_
    obtain ⟨v133_2, ev133_2⟩ : ∃ t_ : UInt64, t_ = FP.dmul p2 v61 := ⟨_, rfl⟩
    have qv133_2 : oQ (q2 * R2) 8 v133_2 := (hp2.mul qv61 ev133_2 (by decide) (by omega)).cast rfl rfl
    refine oW.dmul (pc' := 134) K d1_133 ev133_2 (qv133_2.nn) rfl ?_
    refine oW.dastore (i := 5) (k := 2) (ds' := [(a, .inl (.double, [(.double s0), (.double s1), (.double s2), (.double s3)])), (b, .inl (.double, [(.double p0), (.double p1), (.double p2), (.double p3)])), (a4, .inl (.double, [(.double v61_2), (.double v61_1), (.double v61), (.double s3)])), (a79, .inl (.int, [(.int (0 : Int32)), (.int (1 : Int32)), (.int (2 : Int32)), (.int (0 : Int32))])), (a84, .inl (.double, [(.double p0), (.double p1), (.double p2), (.double (0 : UInt64))])), (a89, .inl (.double, [(.double v133), (.double v133_1), (.double v133_2), (.double (0 : UInt64))]))]) (pc' := 135) K d1_134 rfl rfl (by decide) (Nat.lt_of_sub_eq_succ rfl) rfl rfl ?_
    refine oW.iinc (v := (3 : Int32)) (Ls' := #[.val (.ref a), .val (.ref b), .val (.int (4 : Int32)), .val (.ref a4), .val (.double v69_3), .second, .val (.ref a79), .val (.ref a84), .val (.ref a89), .val (.int (3 : Int32)), .val (.int (2 : Int32)), .unset, .unset, .unset, .unset]) (pc' := 138) K d1_135 rfl (by decide) rfl rfl ?_
    refine oW.iload (pc' := 140) K d1_138 rfl rfl ?_
    refine oW.iconst (v := (1 : Int32)) (pc' := 141) K d1_140 (by decide) rfl ?_
    refine oW.icmp_le (pc' := 218) (pc3 := 144) K d1_141 (by decide) (by decide) rfl (fun q => absurd q (by decide)) (fun _ => ?_)
    refine oW.aload (pc' := 146) K d1_144 rfl rfl rfl ?_
    refine oW.iload (pc' := 148) K d1_146 rfl rfl ?_
    refine oW.iconst (v := (2 : Int32)) (pc' := 149) K d1_148 (by decide) rfl ?_
    refine oW.isub (v := (1 : Int32)) (pc' := 150) K d1_149 (by decide) rfl ?_
    refine oW.daload (i := 5) (k := 1) (pc' := 151) K d1_150 rfl rfl (by decide) rfl rfl ?_
    refine oW.aload (pc' := 153) K d1_151 rfl rfl rfl ?_
    refine oW.iload (pc' := 155) K d1_153 rfl rfl ?_
    refine oW.iconst (v := (2 : Int32)) (pc' := 156) K d1_155 (by decide) rfl ?_
    refine oW.isub (v := (1 : Int32)) (pc' := 157) K d1_156 (by decide) rfl ?_
    refine oW.daload (i := 4) (k := 1) (pc' := 158) K d1_157 rfl rfl (by decide) rfl rfl ?_
    obtain ⟨v158_1, ev158_1⟩ : ∃ t_ : UInt64, t_ = FP.ddiv v133_1 p1 := ⟨_, rfl⟩
    have qv158_1 : oQ (R1) 3 v158_1 := qv133_1.divx hp1 ev158_1 _ 3 (by omega) (by decide) (by decide) (by decide) (by omega) oD83
    refine oW.ddiv (pc' := 159) K d1_158 ev158_1 (qv158_1.nn) rfl ?_
    refine oW.aload (pc' := 161) K d1_159 rfl rfl rfl ?_
    refine oW.iload (pc' := 163) K d1_161 rfl rfl ?_
    refine oW.iconst (v := (1 : Int32)) (pc' := 164) K d1_163 (by decide) rfl ?_
    refine oW.isub (v := (2 : Int32)) (pc' := 165) K d1_164 (by decide) rfl ?_
    refine oW.daload (i := 5) (k := 2) (pc' := 166) K d1_165 rfl rfl (by decide) rfl rfl ?_
    refine oW.aload (pc' := 168) K d1_166 rfl rfl rfl ?_
    refine oW.iload (pc' := 170) K d1_168 rfl rfl ?_
    refine oW.iconst (v := (1 : Int32)) (pc' := 171) K d1_170 (by decide) rfl ?_
    refine oW.isub (v := (2 : Int32)) (pc' := 172) K d1_171 (by decide) rfl ?_
    refine oW.daload (i := 4) (k := 2) (pc' := 173) K d1_172 rfl rfl (by decide) rfl rfl ?_
    obtain ⟨v173_1, ev173_1⟩ : ∃ t_ : UInt64, t_ = FP.ddiv v133_2 p2 := ⟨_, rfl⟩
    have qv173_1 : oQ (R2) 3 v173_1 := qv133_2.divx hp2 ev173_1 _ 3 (by omega) (by decide) (by decide) (by decide) (by omega) oD83
    refine oW.ddiv (pc' := 174) K d1_173 ev173_1 (qv173_1.nn) rfl ?_
    obtain ⟨v174_1, ev174_1⟩ : ∃ t_ : Int32, t_ = cmpValue (FP.dcmp v158_1 v173_1) .l := ⟨_, rfl⟩
    refine oW.dcmp (pc' := 175) K d1_174 ev174_1 rfl ?_
    refine oW.if_le (pc' := 218) (pc3 := 178) K d1_175 (by decide) (by decide) rfl (fun c175_1 => ?_) (fun c175_1 => ?_)
    · rw [(qv158_1.cmp qv173_1 ev174_1).2.2] at c175_1
      refine oW.iinc (v := (3 : Int32)) (Ls' := #[.val (.ref a), .val (.ref b), .val (.int (4 : Int32)), .val (.ref a4), .val (.double v69_3), .second, .val (.ref a79), .val (.ref a84), .val (.ref a89), .val (.int (3 : Int32)), .val (.int (3 : Int32)), .unset, .unset, .unset, .unset]) (pc' := 221) K d1_218 rfl (by decide) rfl rfl ?_
      refine oW.goto (pc' := 99) K d1_221 (by decide) (by decide) ?_
      refine oW.iload (pc' := 101) K d1_99 rfl rfl ?_
      refine oW.iloadN (pc' := 102) K d1_101 rfl rfl ?_
      refine oW.icmp_ge (pc' := 224) (pc3 := 105) K d1_102 (by decide) (by decide) rfl (fun q => absurd q (by decide)) (fun _ => ?_)
      refine oW.aload (pc' := 107) K d1_105 rfl rfl rfl ?_
      refine oW.iload (pc' := 109) K d1_107 rfl rfl ?_
      refine oW.iload (pc' := 111) K d1_109 rfl rfl ?_
      refine oW.iastore (i := 3) (k := 3) (ds' := [(a, .inl (.double, [(.double s0), (.double s1), (.double s2), (.double s3)])), (b, .inl (.double, [(.double p0), (.double p1), (.double p2), (.double p3)])), (a4, .inl (.double, [(.double v61_2), (.double v61_1), (.double v61), (.double s3)])), (a79, .inl (.int, [(.int (0 : Int32)), (.int (1 : Int32)), (.int (2 : Int32)), (.int (3 : Int32))])), (a84, .inl (.double, [(.double p0), (.double p1), (.double p2), (.double (0 : UInt64))])), (a89, .inl (.double, [(.double v133), (.double v133_1), (.double v133_2), (.double (0 : UInt64))]))]) (pc' := 112) K d1_111 rfl rfl (by decide) (Nat.lt_of_sub_eq_succ rfl) rfl rfl ?_
      refine oW.aload (pc' := 114) K d1_112 rfl rfl rfl ?_
      refine oW.iload (pc' := 116) K d1_114 rfl rfl ?_
      refine oW.aloadN (pc' := 117) K d1_116 rfl rfl rfl ?_
      refine oW.iload (pc' := 119) K d1_117 rfl rfl ?_
      refine oW.daload (i := 1) (k := 3) (pc' := 120) K d1_119 rfl rfl (by decide) rfl rfl ?_
      refine oW.dastore (i := 4) (k := 3) (ds' := [(a, .inl (.double, [(.double s0), (.double s1), (.double s2), (.double s3)])), (b, .inl (.double, [(.double p0), (.double p1), (.double p2), (.double p3)])), (a4, .inl (.double, [(.double v61_2), (.double v61_1), (.double v61), (.double s3)])), (a79, .inl (.int, [(.int (0 : Int32)), (.int (1 : Int32)), (.int (2 : Int32)), (.int (3 : Int32))])), (a84, .inl (.double, [(.double p0), (.double p1), (.double p2), (.double p3)])), (a89, .inl (.double, [(.double v133), (.double v133_1), (.double v133_2), (.double (0 : UInt64))]))]) (pc' := 121) K d1_120 rfl rfl (by decide) (Nat.lt_of_sub_eq_succ rfl) rfl rfl ?_
      refine oW.aload (pc' := 123) K d1_121 rfl rfl rfl ?_
      refine oW.iload (pc' := 125) K d1_123 rfl rfl ?_
      refine oW.aloadN (pc' := 126) K d1_125 rfl rfl rfl ?_
      refine oW.iload (pc' := 128) K d1_126 rfl rfl ?_
      refine oW.daload (i := 1) (k := 3) (pc' := 129) K d1_128 rfl rfl (by decide) rfl rfl ?_
      refine oW.aloadN (pc' := 130) K d1_129 rfl rfl rfl ?_
      refine oW.iload (pc' := 132) K d1_130 rfl rfl ?_
      refine oW.daload (i := 2) (k := 3) (pc' := 133) K d1_132 rfl rfl (by decide) rfl rfl ?_
      obtain ⟨v133_3, ev133_3⟩ : ∃ t_ : UInt64, t_ = FP.dmul p3 s3 := ⟨_, rfl⟩
      have qv133_3 : oQ (q3 * R3) 8 v133_3 := (hp3.mul (hs3.up 3 rfl (by decide) hR3) ev133_3 (by decide) (by omega)).cast rfl rfl
      refine oW.dmul (pc' := 134) K d1_133 ev133_3 (qv133_3.nn) rfl ?_
      refine oW.dastore (i := 5) (k := 3) (ds' := [(a, .inl (.double, [(.double s0), (.double s1), (.double s2), (.double s3)])), (b, .inl (.double, [(.double p0), (.double p1), (.double p2), (.double p3)])), (a4, .inl (.double, [(.double v61_2), (.double v61_1), (.double v61), (.double s3)])), (a79, .inl (.int, [(.int (0 : Int32)), (.int (1 : Int32)), (.int (2 : Int32)), (.int (3 : Int32))])), (a84, .inl (.double, [(.double p0), (.double p1), (.double p2), (.double p3)])), (a89, .inl (.double, [(.double v133), (.double v133_1), (.double v133_2), (.double v133_3)]))]) (pc' := 135) K d1_134 rfl rfl (by decide) (Nat.lt_of_sub_eq_succ rfl) rfl rfl ?_
      refine oW.iinc (v := (4 : Int32)) (Ls' := #[.val (.ref a), .val (.ref b), .val (.int (4 : Int32)), .val (.ref a4), .val (.double v69_3), .second, .val (.ref a79), .val (.ref a84), .val (.ref a89), .val (.int (4 : Int32)), .val (.int (3 : Int32)), .unset, .unset, .unset, .unset]) (pc' := 138) K d1_135 rfl (by decide) rfl rfl ?_
      refine oW.iload (pc' := 140) K d1_138 rfl rfl ?_
      refine oW.iconst (v := (1 : Int32)) (pc' := 141) K d1_140 (by decide) rfl ?_
      refine oW.icmp_le (pc' := 218) (pc3 := 144) K d1_141 (by decide) (by decide) rfl (fun q => absurd q (by decide)) (fun _ => ?_)
      refine oW.aload (pc' := 146) K d1_144 rfl rfl rfl ?_
      refine oW.iload (pc' := 148) K d1_146 rfl rfl ?_
      refine oW.iconst (v := (2 : Int32)) (pc' := 149) K d1_148 (by decide) rfl ?_
      refine oW.isub (v := (2 : Int32)) (pc' := 150) K d1_149 (by decide) rfl ?_
      refine oW.daload (i := 5) (k := 2) (pc' := 151) K d1_150 rfl rfl (by decide) rfl rfl ?_
      refine oW.aload (pc' := 153) K d1_151 rfl rfl rfl ?_
      refine oW.iload (pc' := 155) K d1_153 rfl rfl ?_
      refine oW.iconst (v := (2 : Int32)) (pc' := 156) K d1_155 (by decide) rfl ?_
      refine oW.isub (v := (2 : Int32)) (pc' := 157) K d1_156 (by decide) rfl ?_
      refine oW.daload (i := 4) (k := 2) (pc' := 158) K d1_157 rfl rfl (by decide) rfl rfl ?_
      obtain ⟨v158_2, ev158_2⟩ : ∃ t_ : UInt64, t_ = FP.ddiv v133_2 p2 := ⟨_, rfl⟩
      have qv158_2 : oQ (R2) 3 v158_2 := qv133_2.divx hp2 ev158_2 _ 3 (by omega) (by decide) (by decide) (by decide) (by omega) oD83
      refine oW.ddiv (pc' := 159) K d1_158 ev158_2 (qv158_2.nn) rfl ?_
      refine oW.aload (pc' := 161) K d1_159 rfl rfl rfl ?_
      refine oW.iload (pc' := 163) K d1_161 rfl rfl ?_
      refine oW.iconst (v := (1 : Int32)) (pc' := 164) K d1_163 (by decide) rfl ?_
      refine oW.isub (v := (3 : Int32)) (pc' := 165) K d1_164 (by decide) rfl ?_
      refine oW.daload (i := 5) (k := 3) (pc' := 166) K d1_165 rfl rfl (by decide) rfl rfl ?_
      refine oW.aload (pc' := 168) K d1_166 rfl rfl rfl ?_
      refine oW.iload (pc' := 170) K d1_168 rfl rfl ?_
      refine oW.iconst (v := (1 : Int32)) (pc' := 171) K d1_170 (by decide) rfl ?_
      refine oW.isub (v := (3 : Int32)) (pc' := 172) K d1_171 (by decide) rfl ?_
      refine oW.daload (i := 4) (k := 3) (pc' := 173) K d1_172 rfl rfl (by decide) rfl rfl ?_
      obtain ⟨v173_2, ev173_2⟩ : ∃ t_ : UInt64, t_ = FP.ddiv v133_3 p3 := ⟨_, rfl⟩
      have qv173_2 : oQ (R3) 3 v173_2 := qv133_3.divx hp3 ev173_2 _ 3 (by omega) (by decide) (by decide) (by decide) (by omega) oD83
      refine oW.ddiv (pc' := 174) K d1_173 ev173_2 (qv173_2.nn) rfl ?_
      obtain ⟨v174_2, ev174_2⟩ : ∃ t_ : Int32, t_ = cmpValue (FP.dcmp v158_2 v173_2) .l := ⟨_, rfl⟩
      refine oW.dcmp (pc' := 175) K d1_174 ev174_2 rfl ?_
      refine oW.if_le (pc' := 218) (pc3 := 178) K d1_175 (by decide) (by decide) rfl (fun c175_2 => ?_) (fun q => absurd ((qv158_2.cmp qv173_2 ev174_2).2.2.mp q) (by omega))
      refine oW.iinc (v := (4 : Int32)) (Ls' := #[.val (.ref a), .val (.ref b), .val (.int (4 : Int32)), .val (.ref a4), .val (.double v69_3), .second, .val (.ref a79), .val (.ref a84), .val (.ref a89), .val (.int (4 : Int32)), .val (.int (4 : Int32)), .unset, .unset, .unset, .unset]) (pc' := 221) K d1_218 rfl (by decide) rfl rfl ?_
      refine oW.goto (pc' := 99) K d1_221 (by decide) (by decide) ?_
      refine oW.iload (pc' := 101) K d1_99 rfl rfl ?_
      refine oW.iloadN (pc' := 102) K d1_101 rfl rfl ?_
      refine oW.icmp_ge (pc' := 224) (pc3 := 105) K d1_102 (by decide) (by decide) rfl (fun _ => ?_) (fun q => absurd q (by decide))
      refine oW.iloadN (pc' := 225) K d1_224 rfl rfl ?_
      refine oW.newarr (n := 4) (cells' := 5) (slots' := 20) (dsf := fun z => [(a, .inl (.double, [(.double s0), (.double s1), (.double s2), (.double s3)])), (b, .inl (.double, [(.double p0), (.double p1), (.double p2), (.double p3)])), (a4, .inl (.double, [(.double v61_2), (.double v61_1), (.double v61), (.double s3)])), (a79, .inl (.int, [(.int (0 : Int32)), (.int (1 : Int32)), (.int (2 : Int32)), (.int (3 : Int32))])), (a84, .inl (.double, [(.double p0), (.double p1), (.double p2), (.double p3)])), (a89, .inl (.double, [(.double v133), (.double v133_1), (.double v133_2), (.double v133_3)])), (z, .inl (.double, [(.double (0 : UInt64)), (.double (0 : UInt64)), (.double (0 : UInt64)), (.double (0 : UInt64))]))]) (pc' := 227) K (hw _ (List.mem_of_getElem? (i := 2) rfl)) d1_225 rfl (by decide) (by decide) (by decide) (by decide) rfl rfl (fun _ => rfl) rfl ?_
      intro a225 ha225
      refine oW.astore (Ls' := #[.val (.ref a), .val (.ref b), .val (.int (4 : Int32)), .val (.ref a4), .val (.double v69_3), .second, .val (.ref a79), .val (.ref a84), .val (.ref a89), .val (.int (4 : Int32)), .val (.ref a225), .unset, .unset, .unset, .unset]) (pc' := 229) K d1_227 rfl rfl rfl ?_
      refine oW.iconst (v := (0 : Int32)) (pc' := 230) K d1_229 (by decide) rfl ?_
      refine oW.istore (Ls' := #[.val (.ref a), .val (.ref b), .val (.int (4 : Int32)), .val (.ref a4), .val (.double v69_3), .second, .val (.ref a79), .val (.ref a84), .val (.ref a89), .val (.int (4 : Int32)), .val (.ref a225), .val (.int (0 : Int32)), .unset, .unset, .unset]) (pc' := 232) K d1_230 rfl rfl ?_
      refine oW.iload (pc' := 234) K d1_232 rfl rfl ?_
      refine oW.iload (pc' := 236) K d1_234 rfl rfl ?_
      refine oW.icmp_ge (pc' := 316) (pc3 := 239) K d1_236 (by decide) (by decide) rfl (fun q => absurd q (by decide)) (fun _ => ?_)
      refine oW.iload (pc' := 241) K d1_239 rfl rfl ?_
      refine oW.iconst (v := (1 : Int32)) (pc' := 242) K d1_241 (by decide) rfl ?_
      refine oW.iadd (v := (1 : Int32)) (pc' := 243) K d1_242 (by decide) rfl ?_
      refine oW.iload (pc' := 245) K d1_243 rfl rfl ?_
      refine oW.icmp_ge (pc' := 258) (pc3 := 248) K d1_245 (by decide) (by decide) rfl (fun q => absurd q (by decide)) (fun _ => ?_)
      refine oW.aload (pc' := 250) K d1_248 rfl rfl rfl ?_
      refine oW.iload (pc' := 252) K d1_250 rfl rfl ?_
      refine oW.iconst (v := (1 : Int32)) (pc' := 253) K d1_252 (by decide) rfl ?_
      refine oW.iadd (v := (1 : Int32)) (pc' := 254) K d1_253 (by decide) rfl ?_
      refine oW.iaload (i := 3) (k := 1) (pc' := 255) K d1_254 rfl rfl (by decide) rfl rfl ?_
      refine oW.goto (pc' := 259) K d1_255 (by decide) (by decide) ?_
      refine oW.istore (Ls' := #[.val (.ref a), .val (.ref b), .val (.int (4 : Int32)), .val (.ref a4), .val (.double v69_3), .second, .val (.ref a79), .val (.ref a84), .val (.ref a89), .val (.int (4 : Int32)), .val (.ref a225), .val (.int (0 : Int32)), .val (.int (1 : Int32)), .unset, .unset]) (pc' := 261) K d1_259 rfl rfl ?_
      refine oW.iload (pc' := 263) K d1_261 rfl rfl ?_
      refine oW.aload (pc' := 265) K d1_263 rfl rfl rfl ?_
      refine oW.iload (pc' := 267) K d1_265 rfl rfl ?_
      refine oW.iaload (i := 3) (k := 0) (pc' := 268) K d1_267 rfl rfl (by decide) rfl rfl ?_
      refine oW.isub (v := (1 : Int32)) (pc' := 269) K d1_268 (by decide) rfl ?_
      refine oW.iconst (v := (1 : Int32)) (pc' := 270) K d1_269 (by decide) rfl ?_
      refine oW.icmp_ne (pc' := 283) (pc3 := 273) K d1_270 (by decide) (by decide) rfl (fun q => absurd q (by decide)) (fun _ => ?_)
      refine oW.aloadN (pc' := 274) K d1_273 rfl rfl rfl ?_
      refine oW.aload (pc' := 276) K d1_274 rfl rfl rfl ?_
      refine oW.iload (pc' := 278) K d1_276 rfl rfl ?_
      refine oW.iaload (i := 3) (k := 0) (pc' := 279) K d1_278 rfl rfl (by decide) rfl rfl ?_
      refine oW.daload (i := 2) (k := 0) (pc' := 280) K d1_279 rfl rfl (by decide) rfl rfl ?_
      refine oW.goto (pc' := 294) K d1_280 (by decide) (by decide) ?_
      refine oW.dstore (Ls' := #[.val (.ref a), .val (.ref b), .val (.int (4 : Int32)), .val (.ref a4), .val (.double v69_3), .second, .val (.ref a79), .val (.ref a84), .val (.ref a89), .val (.int (4 : Int32)), .val (.ref a225), .val (.int (0 : Int32)), .val (.int (1 : Int32)), .val (.double v61_2), .second]) (pc' := 296) K d1_294 rfl rfl ?_
      refine oW.aload (pc' := 298) K d1_296 rfl rfl rfl ?_
      refine oW.aload (pc' := 300) K d1_298 rfl rfl rfl ?_
      refine oW.iload (pc' := 302) K d1_300 rfl rfl ?_
      refine oW.iaload (i := 3) (k := 0) (pc' := 303) K d1_302 rfl rfl (by decide) rfl rfl ?_
      refine oW.iload (pc' := 305) K d1_303 rfl rfl ?_
      refine oW.dload (pc' := 307) K d1_305 rfl rfl ?_
      refine oW.callS0 (argsL := [(.ref a225), (.int (0 : Int32)), (.int (1 : Int32)), (.double v61_2)]) (S := []) (rm := ({ frames := 1, cells := 0, slots := 0, locals := 30 } : Room)) (W := 0) (cells' := 5) (slots' := 20) (pc' := 310) K (hw _ (List.mem_of_getElem? (i := 9) rfl)) (hw _ (List.mem_of_getElem? (i := 10) rfl)) (hw _ (List.mem_of_getElem? (i := 11) rfl)) (hw _ (List.mem_of_getElem? (i := 12) rfl)) (by decide) (own_fill_4_0_1 hw) (lenOf pd_1 rfl) d1_307 rfl rfl (Nat.le_of_eq rfl) (by decide) (by decide) (by decide) (by decide) rfl rfl rfl ?_
      rintro _ rfl
      refine oW.iinc (v := (1 : Int32)) (Ls' := #[.val (.ref a), .val (.ref b), .val (.int (4 : Int32)), .val (.ref a4), .val (.double v69_3), .second, .val (.ref a79), .val (.ref a84), .val (.ref a89), .val (.int (4 : Int32)), .val (.ref a225), .val (.int (1 : Int32)), .val (.int (1 : Int32)), .val (.double v61_2), .second]) (pc' := 313) K d1_310 rfl (by decide) rfl rfl ?_
      refine oW.goto (pc' := 232) K d1_313 (by decide) (by decide) ?_
      refine oW.iload (pc' := 234) K d1_232 rfl rfl ?_
      refine oW.iload (pc' := 236) K d1_234 rfl rfl ?_
      refine oW.icmp_ge (pc' := 316) (pc3 := 239) K d1_236 (by decide) (by decide) rfl (fun q => absurd q (by decide)) (fun _ => ?_)
      refine oW.iload (pc' := 241) K d1_239 rfl rfl ?_
      refine oW.iconst (v := (1 : Int32)) (pc' := 242) K d1_241 (by decide) rfl ?_
      refine oW.iadd (v := (2 : Int32)) (pc' := 243) K d1_242 (by decide) rfl ?_
      refine oW.iload (pc' := 245) K d1_243 rfl rfl ?_
      refine oW.icmp_ge (pc' := 258) (pc3 := 248) K d1_245 (by decide) (by decide) rfl (fun q => absurd q (by decide)) (fun _ => ?_)
      refine oW.aload (pc' := 250) K d1_248 rfl rfl rfl ?_
      refine oW.iload (pc' := 252) K d1_250 rfl rfl ?_
      refine oW.iconst (v := (1 : Int32)) (pc' := 253) K d1_252 (by decide) rfl ?_
      refine oW.iadd (v := (2 : Int32)) (pc' := 254) K d1_253 (by decide) rfl ?_
      refine oW.iaload (i := 3) (k := 2) (pc' := 255) K d1_254 rfl rfl (by decide) rfl rfl ?_
      refine oW.goto (pc' := 259) K d1_255 (by decide) (by decide) ?_
      refine oW.istore (Ls' := #[.val (.ref a), .val (.ref b), .val (.int (4 : Int32)), .val (.ref a4), .val (.double v69_3), .second, .val (.ref a79), .val (.ref a84), .val (.ref a89), .val (.int (4 : Int32)), .val (.ref a225), .val (.int (1 : Int32)), .val (.int (2 : Int32)), .val (.double v61_2), .second]) (pc' := 261) K d1_259 rfl rfl ?_
      refine oW.iload (pc' := 263) K d1_261 rfl rfl ?_
      refine oW.aload (pc' := 265) K d1_263 rfl rfl rfl ?_
      refine oW.iload (pc' := 267) K d1_265 rfl rfl ?_
      refine oW.iaload (i := 3) (k := 1) (pc' := 268) K d1_267 rfl rfl (by decide) rfl rfl ?_
      refine oW.isub (v := (1 : Int32)) (pc' := 269) K d1_268 (by decide) rfl ?_
      refine oW.iconst (v := (1 : Int32)) (pc' := 270) K d1_269 (by decide) rfl ?_
      refine oW.icmp_ne (pc' := 283) (pc3 := 273) K d1_270 (by decide) (by decide) rfl (fun q => absurd q (by decide)) (fun _ => ?_)
      refine oW.aloadN (pc' := 274) K d1_273 rfl rfl rfl ?_
      refine oW.aload (pc' := 276) K d1_274 rfl rfl rfl ?_
      refine oW.iload (pc' := 278) K d1_276 rfl rfl ?_
      refine oW.iaload (i := 3) (k := 1) (pc' := 279) K d1_278 rfl rfl (by decide) rfl rfl ?_
      refine oW.daload (i := 2) (k := 1) (pc' := 280) K d1_279 rfl rfl (by decide) rfl rfl ?_
      refine oW.goto (pc' := 294) K d1_280 (by decide) (by decide) ?_
      refine oW.dstore (Ls' := #[.val (.ref a), .val (.ref b), .val (.int (4 : Int32)), .val (.ref a4), .val (.double v69_3), .second, .val (.ref a79), .val (.ref a84), .val (.ref a89), .val (.int (4 : Int32)), .val (.ref a225), .val (.int (1 : Int32)), .val (.int (2 : Int32)), .val (.double v61_1), .second]) (pc' := 296) K d1_294 rfl rfl ?_
      refine oW.aload (pc' := 298) K d1_296 rfl rfl rfl ?_
      refine oW.aload (pc' := 300) K d1_298 rfl rfl rfl ?_
      refine oW.iload (pc' := 302) K d1_300 rfl rfl ?_
      refine oW.iaload (i := 3) (k := 1) (pc' := 303) K d1_302 rfl rfl (by decide) rfl rfl ?_
      refine oW.iload (pc' := 305) K d1_303 rfl rfl ?_
      refine oW.dload (pc' := 307) K d1_305 rfl rfl ?_
      refine oW.callS0 (argsL := [(.ref a225), (.int (1 : Int32)), (.int (2 : Int32)), (.double v61_1)]) (S := []) (rm := ({ frames := 1, cells := 0, slots := 0, locals := 30 } : Room)) (W := 0) (cells' := 5) (slots' := 20) (pc' := 310) K (hw _ (List.mem_of_getElem? (i := 9) rfl)) (hw _ (List.mem_of_getElem? (i := 10) rfl)) (hw _ (List.mem_of_getElem? (i := 11) rfl)) (hw _ (List.mem_of_getElem? (i := 12) rfl)) (by decide) (own_fill_4_1_2 hw) (lenOf pd_1 rfl) d1_307 rfl rfl (Nat.le_of_eq rfl) (by decide) (by decide) (by decide) (by decide) rfl rfl rfl ?_
      rintro _ rfl
      refine oW.iinc (v := (2 : Int32)) (Ls' := #[.val (.ref a), .val (.ref b), .val (.int (4 : Int32)), .val (.ref a4), .val (.double v69_3), .second, .val (.ref a79), .val (.ref a84), .val (.ref a89), .val (.int (4 : Int32)), .val (.ref a225), .val (.int (2 : Int32)), .val (.int (2 : Int32)), .val (.double v61_1), .second]) (pc' := 313) K d1_310 rfl (by decide) rfl rfl ?_
      refine oW.goto (pc' := 232) K d1_313 (by decide) (by decide) ?_
      refine oW.iload (pc' := 234) K d1_232 rfl rfl ?_
      refine oW.iload (pc' := 236) K d1_234 rfl rfl ?_
      refine oW.icmp_ge (pc' := 316) (pc3 := 239) K d1_236 (by decide) (by decide) rfl (fun q => absurd q (by decide)) (fun _ => ?_)
      refine oW.iload (pc' := 241) K d1_239 rfl rfl ?_
      refine oW.iconst (v := (1 : Int32)) (pc' := 242) K d1_241 (by decide) rfl ?_
      refine oW.iadd (v := (3 : Int32)) (pc' := 243) K d1_242 (by decide) rfl ?_
      refine oW.iload (pc' := 245) K d1_243 rfl rfl ?_
      refine oW.icmp_ge (pc' := 258) (pc3 := 248) K d1_245 (by decide) (by decide) rfl (fun q => absurd q (by decide)) (fun _ => ?_)
      refine oW.aload (pc' := 250) K d1_248 rfl rfl rfl ?_
      refine oW.iload (pc' := 252) K d1_250 rfl rfl ?_
      refine oW.iconst (v := (1 : Int32)) (pc' := 253) K d1_252 (by decide) rfl ?_
      refine oW.iadd (v := (3 : Int32)) (pc' := 254) K d1_253 (by decide) rfl ?_
      refine oW.iaload (i := 3) (k := 3) (pc' := 255) K d1_254 rfl rfl (by decide) rfl rfl ?_
      refine oW.goto (pc' := 259) K d1_255 (by decide) (by decide) ?_
      refine oW.istore (Ls' := #[.val (.ref a), .val (.ref b), .val (.int (4 : Int32)), .val (.ref a4), .val (.double v69_3), .second, .val (.ref a79), .val (.ref a84), .val (.ref a89), .val (.int (4 : Int32)), .val (.ref a225), .val (.int (2 : Int32)), .val (.int (3 : Int32)), .val (.double v61_1), .second]) (pc' := 261) K d1_259 rfl rfl ?_
      refine oW.iload (pc' := 263) K d1_261 rfl rfl ?_
      refine oW.aload (pc' := 265) K d1_263 rfl rfl rfl ?_
      refine oW.iload (pc' := 267) K d1_265 rfl rfl ?_
      refine oW.iaload (i := 3) (k := 2) (pc' := 268) K d1_267 rfl rfl (by decide) rfl rfl ?_
      refine oW.isub (v := (1 : Int32)) (pc' := 269) K d1_268 (by decide) rfl ?_
      refine oW.iconst (v := (1 : Int32)) (pc' := 270) K d1_269 (by decide) rfl ?_
      refine oW.icmp_ne (pc' := 283) (pc3 := 273) K d1_270 (by decide) (by decide) rfl (fun q => absurd q (by decide)) (fun _ => ?_)
      refine oW.aloadN (pc' := 274) K d1_273 rfl rfl rfl ?_
      refine oW.aload (pc' := 276) K d1_274 rfl rfl rfl ?_
      refine oW.iload (pc' := 278) K d1_276 rfl rfl ?_
      refine oW.iaload (i := 3) (k := 2) (pc' := 279) K d1_278 rfl rfl (by decide) rfl rfl ?_
      refine oW.daload (i := 2) (k := 2) (pc' := 280) K d1_279 rfl rfl (by decide) rfl rfl ?_
      refine oW.goto (pc' := 294) K d1_280 (by decide) (by decide) ?_
      refine oW.dstore (Ls' := #[.val (.ref a), .val (.ref b), .val (.int (4 : Int32)), .val (.ref a4), .val (.double v69_3), .second, .val (.ref a79), .val (.ref a84), .val (.ref a89), .val (.int (4 : Int32)), .val (.ref a225), .val (.int (2 : Int32)), .val (.int (3 : Int32)), .val (.double v61), .second]) (pc' := 296) K d1_294 rfl rfl ?_
      refine oW.aload (pc' := 298) K d1_296 rfl rfl rfl ?_
      refine oW.aload (pc' := 300) K d1_298 rfl rfl rfl ?_
      refine oW.iload (pc' := 302) K d1_300 rfl rfl ?_
      refine oW.iaload (i := 3) (k := 2) (pc' := 303) K d1_302 rfl rfl (by decide) rfl rfl ?_
      refine oW.iload (pc' := 305) K d1_303 rfl rfl ?_
      refine oW.dload (pc' := 307) K d1_305 rfl rfl ?_
      refine oW.callS0 (argsL := [(.ref a225), (.int (2 : Int32)), (.int (3 : Int32)), (.double v61)]) (S := []) (rm := ({ frames := 1, cells := 0, slots := 0, locals := 30 } : Room)) (W := 0) (cells' := 5) (slots' := 20) (pc' := 310) K (hw _ (List.mem_of_getElem? (i := 9) rfl)) (hw _ (List.mem_of_getElem? (i := 10) rfl)) (hw _ (List.mem_of_getElem? (i := 11) rfl)) (hw _ (List.mem_of_getElem? (i := 12) rfl)) (by decide) (own_fill_4_2_3 hw) (lenOf pd_1 rfl) d1_307 rfl rfl (Nat.le_of_eq rfl) (by decide) (by decide) (by decide) (by decide) rfl rfl rfl ?_
      rintro _ rfl
      refine oW.iinc (v := (3 : Int32)) (Ls' := #[.val (.ref a), .val (.ref b), .val (.int (4 : Int32)), .val (.ref a4), .val (.double v69_3), .second, .val (.ref a79), .val (.ref a84), .val (.ref a89), .val (.int (4 : Int32)), .val (.ref a225), .val (.int (3 : Int32)), .val (.int (3 : Int32)), .val (.double v61), .second]) (pc' := 313) K d1_310 rfl (by decide) rfl rfl ?_
      refine oW.goto (pc' := 232) K d1_313 (by decide) (by decide) ?_
      refine oW.iload (pc' := 234) K d1_232 rfl rfl ?_
      refine oW.iload (pc' := 236) K d1_234 rfl rfl ?_
      refine oW.icmp_ge (pc' := 316) (pc3 := 239) K d1_236 (by decide) (by decide) rfl (fun q => absurd q (by decide)) (fun _ => ?_)
      refine oW.iload (pc' := 241) K d1_239 rfl rfl ?_
      refine oW.iconst (v := (1 : Int32)) (pc' := 242) K d1_241 (by decide) rfl ?_
      refine oW.iadd (v := (4 : Int32)) (pc' := 243) K d1_242 (by decide) rfl ?_
      refine oW.iload (pc' := 245) K d1_243 rfl rfl ?_
      refine oW.icmp_ge (pc' := 258) (pc3 := 248) K d1_245 (by decide) (by decide) rfl (fun _ => ?_) (fun q => absurd q (by decide))
      refine oW.iloadN (pc' := 259) K d1_258 rfl rfl ?_
      refine oW.istore (Ls' := #[.val (.ref a), .val (.ref b), .val (.int (4 : Int32)), .val (.ref a4), .val (.double v69_3), .second, .val (.ref a79), .val (.ref a84), .val (.ref a89), .val (.int (4 : Int32)), .val (.ref a225), .val (.int (3 : Int32)), .val (.int (4 : Int32)), .val (.double v61), .second]) (pc' := 261) K d1_259 rfl rfl ?_
      refine oW.iload (pc' := 263) K d1_261 rfl rfl ?_
      refine oW.aload (pc' := 265) K d1_263 rfl rfl rfl ?_
      refine oW.iload (pc' := 267) K d1_265 rfl rfl ?_
      refine oW.iaload (i := 3) (k := 3) (pc' := 268) K d1_267 rfl rfl (by decide) rfl rfl ?_
      refine oW.isub (v := (1 : Int32)) (pc' := 269) K d1_268 (by decide) rfl ?_
      refine oW.iconst (v := (1 : Int32)) (pc' := 270) K d1_269 (by decide) rfl ?_
      refine oW.icmp_ne (pc' := 283) (pc3 := 273) K d1_270 (by decide) (by decide) rfl (fun q => absurd q (by decide)) (fun _ => ?_)
      refine oW.aloadN (pc' := 274) K d1_273 rfl rfl rfl ?_
      refine oW.aload (pc' := 276) K d1_274 rfl rfl rfl ?_
      refine oW.iload (pc' := 278) K d1_276 rfl rfl ?_
      refine oW.iaload (i := 3) (k := 3) (pc' := 279) K d1_278 rfl rfl (by decide) rfl rfl ?_
      refine oW.daload (i := 2) (k := 3) (pc' := 280) K d1_279 rfl rfl (by decide) rfl rfl ?_
      refine oW.goto (pc' := 294) K d1_280 (by decide) (by decide) ?_
      refine oW.dstore (Ls' := #[.val (.ref a), .val (.ref b), .val (.int (4 : Int32)), .val (.ref a4), .val (.double v69_3), .second, .val (.ref a79), .val (.ref a84), .val (.ref a89), .val (.int (4 : Int32)), .val (.ref a225), .val (.int (3 : Int32)), .val (.int (4 : Int32)), .val (.double s3), .second]) (pc' := 296) K d1_294 rfl rfl ?_
      refine oW.aload (pc' := 298) K d1_296 rfl rfl rfl ?_
      refine oW.aload (pc' := 300) K d1_298 rfl rfl rfl ?_
      refine oW.iload (pc' := 302) K d1_300 rfl rfl ?_
      refine oW.iaload (i := 3) (k := 3) (pc' := 303) K d1_302 rfl rfl (by decide) rfl rfl ?_
      refine oW.iload (pc' := 305) K d1_303 rfl rfl ?_
      refine oW.dload (pc' := 307) K d1_305 rfl rfl ?_
      refine oW.callS0 (argsL := [(.ref a225), (.int (3 : Int32)), (.int (4 : Int32)), (.double s3)]) (S := []) (rm := ({ frames := 1, cells := 0, slots := 0, locals := 30 } : Room)) (W := 0) (cells' := 5) (slots' := 20) (pc' := 310) K (hw _ (List.mem_of_getElem? (i := 9) rfl)) (hw _ (List.mem_of_getElem? (i := 10) rfl)) (hw _ (List.mem_of_getElem? (i := 11) rfl)) (hw _ (List.mem_of_getElem? (i := 12) rfl)) (by decide) (own_fill_4_3_4 hw) (lenOf pd_1 rfl) d1_307 rfl rfl (Nat.le_of_eq rfl) (by decide) (by decide) (by decide) (by decide) rfl rfl rfl ?_
      rintro _ rfl
      refine oW.iinc (v := (4 : Int32)) (Ls' := #[.val (.ref a), .val (.ref b), .val (.int (4 : Int32)), .val (.ref a4), .val (.double v69_3), .second, .val (.ref a79), .val (.ref a84), .val (.ref a89), .val (.int (4 : Int32)), .val (.ref a225), .val (.int (4 : Int32)), .val (.int (4 : Int32)), .val (.double s3), .second]) (pc' := 313) K d1_310 rfl (by decide) rfl rfl ?_
      refine oW.goto (pc' := 232) K d1_313 (by decide) (by decide) ?_
      refine oW.iload (pc' := 234) K d1_232 rfl rfl ?_
      refine oW.iload (pc' := 236) K d1_234 rfl rfl ?_
      refine oW.icmp_ge (pc' := 316) (pc3 := 239) K d1_236 (by decide) (by decide) rfl (fun _ => ?_) (fun q => absurd q (by decide))
      refine oW.aload (pc' := 318) K d1_316 rfl rfl rfl ?_
      exact oW.retA K rfl rfl rfl d1_318 (by decide) (by decide) ⟨_, rfl, _, _, _, _, _, _, _, _, _, _, _, _, _, rfl, rfl, ⟨Or.inl ⟨by omega, by omega, qv61_2, qv61_1, qv61⟩, (hs3.up 3 rfl (by decide) hR3)⟩⟩
    · rw [(qv158_1.cmp qv173_1 ev174_1).2.2] at c175_1
      refine oW.aload (pc' := 180) K d1_178 rfl rfl rfl ?_
      refine oW.iload (pc' := 182) K d1_180 rfl rfl ?_
      refine oW.iconst (v := (2 : Int32)) (pc' := 183) K d1_182 (by decide) rfl ?_
      refine oW.isub (v := (1 : Int32)) (pc' := 184) K d1_183 (by decide) rfl ?_
      refine oW.dup2 (pc' := 185) K d1_184 rfl rfl rfl ?_
      refine oW.daload (i := 4) (k := 1) (pc' := 186) K d1_185 rfl rfl (by decide) rfl rfl ?_
      refine oW.aload (pc' := 188) K d1_186 rfl rfl rfl ?_
      refine oW.iload (pc' := 190) K d1_188 rfl rfl ?_
      refine oW.iconst (v := (1 : Int32)) (pc' := 191) K d1_190 (by decide) rfl ?_
      refine oW.isub (v := (2 : Int32)) (pc' := 192) K d1_191 (by decide) rfl ?_
      refine oW.daload (i := 4) (k := 2) (pc' := 193) K d1_192 rfl rfl (by decide) rfl rfl ?_
      obtain ⟨v193, ev193⟩ : ∃ t_ : UInt64, t_ = FP.dadd p1 p2 := ⟨_, rfl⟩
      have qv193 : oQ (q1 + q2) 5 v193 := (hp1.add hp2 ev193 (by decide) (by omega)).cast rfl (by omega)
      refine oW.dadd (pc' := 194) K d1_193 ev193 (qv193.nn) rfl ?_
      refine oW.dastore (i := 4) (k := 1) (ds' := [(a, .inl (.double, [(.double s0), (.double s1), (.double s2), (.double s3)])), (b, .inl (.double, [(.double p0), (.double p1), (.double p2), (.double p3)])), (a4, .inl (.double, [(.double v61_2), (.double v61_1), (.double v61), (.double s3)])), (a79, .inl (.int, [(.int (0 : Int32)), (.int (1 : Int32)), (.int (2 : Int32)), (.int (0 : Int32))])), (a84, .inl (.double, [(.double p0), (.double v193), (.double p2), (.double (0 : UInt64))])), (a89, .inl (.double, [(.double v133), (.double v133_1), (.double v133_2), (.double (0 : UInt64))]))]) (pc' := 195) K d1_194 rfl rfl (by decide) (Nat.lt_of_sub_eq_succ rfl) rfl rfl ?_
      refine oW.aload (pc' := 197) K d1_195 rfl rfl rfl ?_
      refine oW.iload (pc' := 199) K d1_197 rfl rfl ?_
      refine oW.iconst (v := (2 : Int32)) (pc' := 200) K d1_199 (by decide) rfl ?_
      refine oW.isub (v := (1 : Int32)) (pc' := 201) K d1_200 (by decide) rfl ?_
      refine oW.dup2 (pc' := 202) K d1_201 rfl rfl rfl ?_
      refine oW.daload (i := 5) (k := 1) (pc' := 203) K d1_202 rfl rfl (by decide) rfl rfl ?_
      refine oW.aload (pc' := 205) K d1_203 rfl rfl rfl ?_
      refine oW.iload (pc' := 207) K d1_205 rfl rfl ?_
      refine oW.iconst (v := (1 : Int32)) (pc' := 208) K d1_207 (by decide) rfl ?_
      refine oW.isub (v := (2 : Int32)) (pc' := 209) K d1_208 (by decide) rfl ?_
      refine oW.daload (i := 5) (k := 2) (pc' := 210) K d1_209 rfl rfl (by decide) rfl rfl ?_
      obtain ⟨v210, ev210⟩ : ∃ t_ : UInt64, t_ = FP.dadd v133_1 v133_2 := ⟨_, rfl⟩
      have qv210 : oQ (q1 * R1 + q2 * R2) 8 v210 := (qv133_1.add qv133_2 ev210 (by decide) (by omega)).cast rfl (by omega)
      refine oW.dadd (pc' := 211) K d1_210 ev210 (qv210.nn) rfl ?_
      refine oW.dastore (i := 5) (k := 1) (ds' := [(a, .inl (.double, [(.double s0), (.double s1), (.double s2), (.double s3)])), (b, .inl (.double, [(.double p0), (.double p1), (.double p2), (.double p3)])), (a4, .inl (.double, [(.double v61_2), (.double v61_1), (.double v61), (.double s3)])), (a79, .inl (.int, [(.int (0 : Int32)), (.int (1 : Int32)), (.int (2 : Int32)), (.int (0 : Int32))])), (a84, .inl (.double, [(.double p0), (.double v193), (.double p2), (.double (0 : UInt64))])), (a89, .inl (.double, [(.double v133), (.double v210), (.double v133_2), (.double (0 : UInt64))]))]) (pc' := 212) K d1_211 rfl rfl (by decide) (Nat.lt_of_sub_eq_succ rfl) rfl rfl ?_
      refine oW.iinc (v := (2 : Int32)) (Ls' := #[.val (.ref a), .val (.ref b), .val (.int (4 : Int32)), .val (.ref a4), .val (.double v69_3), .second, .val (.ref a79), .val (.ref a84), .val (.ref a89), .val (.int (2 : Int32)), .val (.int (2 : Int32)), .unset, .unset, .unset, .unset]) (pc' := 215) K d1_212 rfl (by decide) rfl rfl ?_
      refine oW.goto (pc' := 138) K d1_215 (by decide) (by decide) ?_
      refine oW.iload (pc' := 140) K d1_138 rfl rfl ?_
      refine oW.iconst (v := (1 : Int32)) (pc' := 141) K d1_140 (by decide) rfl ?_
      refine oW.icmp_le (pc' := 218) (pc3 := 144) K d1_141 (by decide) (by decide) rfl (fun q => absurd q (by decide)) (fun _ => ?_)
      refine oW.aload (pc' := 146) K d1_144 rfl rfl rfl ?_
      refine oW.iload (pc' := 148) K d1_146 rfl rfl ?_
      refine oW.iconst (v := (2 : Int32)) (pc' := 149) K d1_148 (by decide) rfl ?_
      refine oW.isub (v := (0 : Int32)) (pc' := 150) K d1_149 (by decide) rfl ?_
      refine oW.daload (i := 5) (k := 0) (pc' := 151) K d1_150 rfl rfl (by decide) rfl rfl ?_
      refine oW.aload (pc' := 153) K d1_151 rfl rfl rfl ?_
      refine oW.iload (pc' := 155) K d1_153 rfl rfl ?_
      refine oW.iconst (v := (2 : Int32)) (pc' := 156) K d1_155 (by decide) rfl ?_
      refine oW.isub (v := (0 : Int32)) (pc' := 157) K d1_156 (by decide) rfl ?_
      refine oW.daload (i := 4) (k := 0) (pc' := 158) K d1_157 rfl rfl (by decide) rfl rfl ?_
      obtain ⟨v158_2, ev158_2⟩ : ∃ t_ : UInt64, t_ = FP.ddiv v133 p0 := ⟨_, rfl⟩
      have qv158_2 : oQ (R0) 3 v158_2 := qv133.divx hp0 ev158_2 _ 3 (by omega) (by decide) (by decide) (by decide) (by omega) oD83
      refine oW.ddiv (pc' := 159) K d1_158 ev158_2 (qv158_2.nn) rfl ?_
      refine oW.aload (pc' := 161) K d1_159 rfl rfl rfl ?_
      refine oW.iload (pc' := 163) K d1_161 rfl rfl ?_
      refine oW.iconst (v := (1 : Int32)) (pc' := 164) K d1_163 (by decide) rfl ?_
      refine oW.isub (v := (1 : Int32)) (pc' := 165) K d1_164 (by decide) rfl ?_
      refine oW.daload (i := 5) (k := 1) (pc' := 166) K d1_165 rfl rfl (by decide) rfl rfl ?_
      refine oW.aload (pc' := 168) K d1_166 rfl rfl rfl ?_
      refine oW.iload (pc' := 170) K d1_168 rfl rfl ?_
      refine oW.iconst (v := (1 : Int32)) (pc' := 171) K d1_170 (by decide) rfl ?_
      refine oW.isub (v := (1 : Int32)) (pc' := 172) K d1_171 (by decide) rfl ?_
      refine oW.daload (i := 4) (k := 1) (pc' := 173) K d1_172 rfl rfl (by decide) rfl rfl ?_
      obtain ⟨v173_2, ev173_2⟩ : ∃ t_ : UInt64, t_ = FP.ddiv v210 v193 := ⟨_, rfl⟩
      refine oW.ddiv (pc' := 174) K d1_173 ev173_2 (qv210.divnn qv193 ev173_2 (by omega) (by decide) (by decide)) rfl ?_
      obtain ⟨v174_2, ev174_2⟩ : ∃ t_ : Int32, t_ = cmpValue (FP.dcmp v158_2 v173_2) .l := ⟨_, rfl⟩
      refine oW.dcmp (pc' := 175) K d1_174 ev174_2 rfl ?_
      refine oW.if_le (pc' := 218) (pc3 := 178) K d1_175 (by decide) (by decide) rfl (fun c175_2 => ?_) (fun c175_2 => ?_)
      · rw [(qv210.quoR qv193 ev173_2 qv158_2 (by omega) (by omega) ev174_2).2.2] at c175_2
        refine oW.iinc (v := (3 : Int32)) (Ls' := #[.val (.ref a), .val (.ref b), .val (.int (4 : Int32)), .val (.ref a4), .val (.double v69_3), .second, .val (.ref a79), .val (.ref a84), .val (.ref a89), .val (.int (2 : Int32)), .val (.int (3 : Int32)), .unset, .unset, .unset, .unset]) (pc' := 221) K d1_218 rfl (by decide) rfl rfl ?_
        refine oW.goto (pc' := 99) K d1_221 (by decide) (by decide) ?_
        refine oW.iload (pc' := 101) K d1_99 rfl rfl ?_
        refine oW.iloadN (pc' := 102) K d1_101 rfl rfl ?_
        refine oW.icmp_ge (pc' := 224) (pc3 := 105) K d1_102 (by decide) (by decide) rfl (fun q => absurd q (by decide)) (fun _ => ?_)
        refine oW.aload (pc' := 107) K d1_105 rfl rfl rfl ?_
        refine oW.iload (pc' := 109) K d1_107 rfl rfl ?_
        refine oW.iload (pc' := 111) K d1_109 rfl rfl ?_
        refine oW.iastore (i := 3) (k := 2) (ds' := [(a, .inl (.double, [(.double s0), (.double s1), (.double s2), (.double s3)])), (b, .inl (.double, [(.double p0), (.double p1), (.double p2), (.double p3)])), (a4, .inl (.double, [(.double v61_2), (.double v61_1), (.double v61), (.double s3)])), (a79, .inl (.int, [(.int (0 : Int32)), (.int (1 : Int32)), (.int (3 : Int32)), (.int (0 : Int32))])), (a84, .inl (.double, [(.double p0), (.double v193), (.double p2), (.double (0 : UInt64))])), (a89, .inl (.double, [(.double v133), (.double v210), (.double v133_2), (.double (0 : UInt64))]))]) (pc' := 112) K d1_111 rfl rfl (by decide) (Nat.lt_of_sub_eq_succ rfl) rfl rfl ?_
        refine oW.aload (pc' := 114) K d1_112 rfl rfl rfl ?_
        refine oW.iload (pc' := 116) K d1_114 rfl rfl ?_
        refine oW.aloadN (pc' := 117) K d1_116 rfl rfl rfl ?_
        refine oW.iload (pc' := 119) K d1_117 rfl rfl ?_
        refine oW.daload (i := 1) (k := 3) (pc' := 120) K d1_119 rfl rfl (by decide) rfl rfl ?_
        refine oW.dastore (i := 4) (k := 2) (ds' := [(a, .inl (.double, [(.double s0), (.double s1), (.double s2), (.double s3)])), (b, .inl (.double, [(.double p0), (.double p1), (.double p2), (.double p3)])), (a4, .inl (.double, [(.double v61_2), (.double v61_1), (.double v61), (.double s3)])), (a79, .inl (.int, [(.int (0 : Int32)), (.int (1 : Int32)), (.int (3 : Int32)), (.int (0 : Int32))])), (a84, .inl (.double, [(.double p0), (.double v193), (.double p3), (.double (0 : UInt64))])), (a89, .inl (.double, [(.double v133), (.double v210), (.double v133_2), (.double (0 : UInt64))]))]) (pc' := 121) K d1_120 rfl rfl (by decide) (Nat.lt_of_sub_eq_succ rfl) rfl rfl ?_
        refine oW.aload (pc' := 123) K d1_121 rfl rfl rfl ?_
        refine oW.iload (pc' := 125) K d1_123 rfl rfl ?_
        refine oW.aloadN (pc' := 126) K d1_125 rfl rfl rfl ?_
        refine oW.iload (pc' := 128) K d1_126 rfl rfl ?_
        refine oW.daload (i := 1) (k := 3) (pc' := 129) K d1_128 rfl rfl (by decide) rfl rfl ?_
        refine oW.aloadN (pc' := 130) K d1_129 rfl rfl rfl ?_
        refine oW.iload (pc' := 132) K d1_130 rfl rfl ?_
        refine oW.daload (i := 2) (k := 3) (pc' := 133) K d1_132 rfl rfl (by decide) rfl rfl ?_
        obtain ⟨v133_3, ev133_3⟩ : ∃ t_ : UInt64, t_ = FP.dmul p3 s3 := ⟨_, rfl⟩
        have qv133_3 : oQ (q3 * R3) 8 v133_3 := (hp3.mul (hs3.up 3 rfl (by decide) hR3) ev133_3 (by decide) (by omega)).cast rfl rfl
        refine oW.dmul (pc' := 134) K d1_133 ev133_3 (qv133_3.nn) rfl ?_
        refine oW.dastore (i := 5) (k := 2) (ds' := [(a, .inl (.double, [(.double s0), (.double s1), (.double s2), (.double s3)])), (b, .inl (.double, [(.double p0), (.double p1), (.double p2), (.double p3)])), (a4, .inl (.double, [(.double v61_2), (.double v61_1), (.double v61), (.double s3)])), (a79, .inl (.int, [(.int (0 : Int32)), (.int (1 : Int32)), (.int (3 : Int32)), (.int (0 : Int32))])), (a84, .inl (.double, [(.double p0), (.double v193), (.double p3), (.double (0 : UInt64))])), (a89, .inl (.double, [(.double v133), (.double v210), (.double v133_3), (.double (0 : UInt64))]))]) (pc' := 135) K d1_134 rfl rfl (by decide) (Nat.lt_of_sub_eq_succ rfl) rfl rfl ?_
        refine oW.iinc (v := (3 : Int32)) (Ls' := #[.val (.ref a), .val (.ref b), .val (.int (4 : Int32)), .val (.ref a4), .val (.double v69_3), .second, .val (.ref a79), .val (.ref a84), .val (.ref a89), .val (.int (3 : Int32)), .val (.int (3 : Int32)), .unset, .unset, .unset, .unset]) (pc' := 138) K d1_135 rfl (by decide) rfl rfl ?_
        refine oW.iload (pc' := 140) K d1_138 rfl rfl ?_
        refine oW.iconst (v := (1 : Int32)) (pc' := 141) K d1_140 (by decide) rfl ?_
        refine oW.icmp_le (pc' := 218) (pc3 := 144) K d1_141 (by decide) (by decide) rfl (fun q => absurd q (by decide)) (fun _ => ?_)
        refine oW.aload (pc' := 146) K d1_144 rfl rfl rfl ?_
        refine oW.iload (pc' := 148) K d1_146 rfl rfl ?_
        refine oW.iconst (v := (2 : Int32)) (pc' := 149) K d1_148 (by decide) rfl ?_
        refine oW.isub (v := (1 : Int32)) (pc' := 150) K d1_149 (by decide) rfl ?_
        refine oW.daload (i := 5) (k := 1) (pc' := 151) K d1_150 rfl rfl (by decide) rfl rfl ?_
        refine oW.aload (pc' := 153) K d1_151 rfl rfl rfl ?_
        refine oW.iload (pc' := 155) K d1_153 rfl rfl ?_
        refine oW.iconst (v := (2 : Int32)) (pc' := 156) K d1_155 (by decide) rfl ?_
        refine oW.isub (v := (1 : Int32)) (pc' := 157) K d1_156 (by decide) rfl ?_
        refine oW.daload (i := 4) (k := 1) (pc' := 158) K d1_157 rfl rfl (by decide) rfl rfl ?_
        obtain ⟨v158_3, ev158_3⟩ : ∃ t_ : UInt64, t_ = FP.ddiv v210 v193 := ⟨_, rfl⟩
        refine oW.ddiv (pc' := 159) K d1_158 ev158_3 (qv210.divnn qv193 ev158_3 (by omega) (by decide) (by decide)) rfl ?_
        refine oW.aload (pc' := 161) K d1_159 rfl rfl rfl ?_
        refine oW.iload (pc' := 163) K d1_161 rfl rfl ?_
        refine oW.iconst (v := (1 : Int32)) (pc' := 164) K d1_163 (by decide) rfl ?_
        refine oW.isub (v := (2 : Int32)) (pc' := 165) K d1_164 (by decide) rfl ?_
        refine oW.daload (i := 5) (k := 2) (pc' := 166) K d1_165 rfl rfl (by decide) rfl rfl ?_
        refine oW.aload (pc' := 168) K d1_166 rfl rfl rfl ?_
        refine oW.iload (pc' := 170) K d1_168 rfl rfl ?_
        refine oW.iconst (v := (1 : Int32)) (pc' := 171) K d1_170 (by decide) rfl ?_
        refine oW.isub (v := (2 : Int32)) (pc' := 172) K d1_171 (by decide) rfl ?_
        refine oW.daload (i := 4) (k := 2) (pc' := 173) K d1_172 rfl rfl (by decide) rfl rfl ?_
        obtain ⟨v173_3, ev173_3⟩ : ∃ t_ : UInt64, t_ = FP.ddiv v133_3 p3 := ⟨_, rfl⟩
        have qv173_3 : oQ (R3) 3 v173_3 := qv133_3.divx hp3 ev173_3 _ 3 (by omega) (by decide) (by decide) (by decide) (by omega) oD83
        refine oW.ddiv (pc' := 174) K d1_173 ev173_3 (qv173_3.nn) rfl ?_
        obtain ⟨v174_3, ev174_3⟩ : ∃ t_ : Int32, t_ = cmpValue (FP.dcmp v158_3 v173_3) .l := ⟨_, rfl⟩
        refine oW.dcmp (pc' := 175) K d1_174 ev174_3 rfl ?_
        refine oW.if_le (pc' := 218) (pc3 := 178) K d1_175 (by decide) (by decide) rfl (fun c175_3 => ?_) (fun q => absurd ((qv210.quoL qv193 ev158_3 qv173_3 (by omega) (by omega) ev174_3).2.2.mp q) (by have hav := oAvg2 (q0 := q1) (q1 := q2) (by omega) (by omega) hm1 hm2; omega))
        refine oW.iinc (v := (4 : Int32)) (Ls' := #[.val (.ref a), .val (.ref b), .val (.int (4 : Int32)), .val (.ref a4), .val (.double v69_3), .second, .val (.ref a79), .val (.ref a84), .val (.ref a89), .val (.int (3 : Int32)), .val (.int (4 : Int32)), .unset, .unset, .unset, .unset]) (pc' := 221) K d1_218 rfl (by decide) rfl rfl ?_
        refine oW.goto (pc' := 99) K d1_221 (by decide) (by decide) ?_
        refine oW.iload (pc' := 101) K d1_99 rfl rfl ?_
        refine oW.iloadN (pc' := 102) K d1_101 rfl rfl ?_
        refine oW.icmp_ge (pc' := 224) (pc3 := 105) K d1_102 (by decide) (by decide) rfl (fun _ => ?_) (fun q => absurd q (by decide))
        refine oW.iloadN (pc' := 225) K d1_224 rfl rfl ?_
        refine oW.newarr (n := 4) (cells' := 5) (slots' := 20) (dsf := fun z => [(a, .inl (.double, [(.double s0), (.double s1), (.double s2), (.double s3)])), (b, .inl (.double, [(.double p0), (.double p1), (.double p2), (.double p3)])), (a4, .inl (.double, [(.double v61_2), (.double v61_1), (.double v61), (.double s3)])), (a79, .inl (.int, [(.int (0 : Int32)), (.int (1 : Int32)), (.int (3 : Int32)), (.int (0 : Int32))])), (a84, .inl (.double, [(.double p0), (.double v193), (.double p3), (.double (0 : UInt64))])), (a89, .inl (.double, [(.double v133), (.double v210), (.double v133_3), (.double (0 : UInt64))])), (z, .inl (.double, [(.double (0 : UInt64)), (.double (0 : UInt64)), (.double (0 : UInt64)), (.double (0 : UInt64))]))]) (pc' := 227) K (hw _ (List.mem_of_getElem? (i := 2) rfl)) d1_225 rfl (by decide) (by decide) (by decide) (by decide) rfl rfl (fun _ => rfl) rfl ?_
        intro a225 ha225
        refine oW.astore (Ls' := #[.val (.ref a), .val (.ref b), .val (.int (4 : Int32)), .val (.ref a4), .val (.double v69_3), .second, .val (.ref a79), .val (.ref a84), .val (.ref a89), .val (.int (3 : Int32)), .val (.ref a225), .unset, .unset, .unset, .unset]) (pc' := 229) K d1_227 rfl rfl rfl ?_
        refine oW.iconst (v := (0 : Int32)) (pc' := 230) K d1_229 (by decide) rfl ?_
        refine oW.istore (Ls' := #[.val (.ref a), .val (.ref b), .val (.int (4 : Int32)), .val (.ref a4), .val (.double v69_3), .second, .val (.ref a79), .val (.ref a84), .val (.ref a89), .val (.int (3 : Int32)), .val (.ref a225), .val (.int (0 : Int32)), .unset, .unset, .unset]) (pc' := 232) K d1_230 rfl rfl ?_
        refine oW.iload (pc' := 234) K d1_232 rfl rfl ?_
        refine oW.iload (pc' := 236) K d1_234 rfl rfl ?_
        refine oW.icmp_ge (pc' := 316) (pc3 := 239) K d1_236 (by decide) (by decide) rfl (fun q => absurd q (by decide)) (fun _ => ?_)
        refine oW.iload (pc' := 241) K d1_239 rfl rfl ?_
        refine oW.iconst (v := (1 : Int32)) (pc' := 242) K d1_241 (by decide) rfl ?_
        refine oW.iadd (v := (1 : Int32)) (pc' := 243) K d1_242 (by decide) rfl ?_
        refine oW.iload (pc' := 245) K d1_243 rfl rfl ?_
        refine oW.icmp_ge (pc' := 258) (pc3 := 248) K d1_245 (by decide) (by decide) rfl (fun q => absurd q (by decide)) (fun _ => ?_)
        refine oW.aload (pc' := 250) K d1_248 rfl rfl rfl ?_
        refine oW.iload (pc' := 252) K d1_250 rfl rfl ?_
        refine oW.iconst (v := (1 : Int32)) (pc' := 253) K d1_252 (by decide) rfl ?_
        refine oW.iadd (v := (1 : Int32)) (pc' := 254) K d1_253 (by decide) rfl ?_
        refine oW.iaload (i := 3) (k := 1) (pc' := 255) K d1_254 rfl rfl (by decide) rfl rfl ?_
        refine oW.goto (pc' := 259) K d1_255 (by decide) (by decide) ?_
        refine oW.istore (Ls' := #[.val (.ref a), .val (.ref b), .val (.int (4 : Int32)), .val (.ref a4), .val (.double v69_3), .second, .val (.ref a79), .val (.ref a84), .val (.ref a89), .val (.int (3 : Int32)), .val (.ref a225), .val (.int (0 : Int32)), .val (.int (1 : Int32)), .unset, .unset]) (pc' := 261) K d1_259 rfl rfl ?_
        refine oW.iload (pc' := 263) K d1_261 rfl rfl ?_
        refine oW.aload (pc' := 265) K d1_263 rfl rfl rfl ?_
        refine oW.iload (pc' := 267) K d1_265 rfl rfl ?_
        refine oW.iaload (i := 3) (k := 0) (pc' := 268) K d1_267 rfl rfl (by decide) rfl rfl ?_
        refine oW.isub (v := (1 : Int32)) (pc' := 269) K d1_268 (by decide) rfl ?_
        refine oW.iconst (v := (1 : Int32)) (pc' := 270) K d1_269 (by decide) rfl ?_
        refine oW.icmp_ne (pc' := 283) (pc3 := 273) K d1_270 (by decide) (by decide) rfl (fun q => absurd q (by decide)) (fun _ => ?_)
        refine oW.aloadN (pc' := 274) K d1_273 rfl rfl rfl ?_
        refine oW.aload (pc' := 276) K d1_274 rfl rfl rfl ?_
        refine oW.iload (pc' := 278) K d1_276 rfl rfl ?_
        refine oW.iaload (i := 3) (k := 0) (pc' := 279) K d1_278 rfl rfl (by decide) rfl rfl ?_
        refine oW.daload (i := 2) (k := 0) (pc' := 280) K d1_279 rfl rfl (by decide) rfl rfl ?_
        refine oW.goto (pc' := 294) K d1_280 (by decide) (by decide) ?_
        refine oW.dstore (Ls' := #[.val (.ref a), .val (.ref b), .val (.int (4 : Int32)), .val (.ref a4), .val (.double v69_3), .second, .val (.ref a79), .val (.ref a84), .val (.ref a89), .val (.int (3 : Int32)), .val (.ref a225), .val (.int (0 : Int32)), .val (.int (1 : Int32)), .val (.double v61_2), .second]) (pc' := 296) K d1_294 rfl rfl ?_
        refine oW.aload (pc' := 298) K d1_296 rfl rfl rfl ?_
        refine oW.aload (pc' := 300) K d1_298 rfl rfl rfl ?_
        refine oW.iload (pc' := 302) K d1_300 rfl rfl ?_
        refine oW.iaload (i := 3) (k := 0) (pc' := 303) K d1_302 rfl rfl (by decide) rfl rfl ?_
        refine oW.iload (pc' := 305) K d1_303 rfl rfl ?_
        refine oW.dload (pc' := 307) K d1_305 rfl rfl ?_
        refine oW.callS0 (argsL := [(.ref a225), (.int (0 : Int32)), (.int (1 : Int32)), (.double v61_2)]) (S := []) (rm := ({ frames := 1, cells := 0, slots := 0, locals := 30 } : Room)) (W := 0) (cells' := 5) (slots' := 20) (pc' := 310) K (hw _ (List.mem_of_getElem? (i := 9) rfl)) (hw _ (List.mem_of_getElem? (i := 10) rfl)) (hw _ (List.mem_of_getElem? (i := 11) rfl)) (hw _ (List.mem_of_getElem? (i := 12) rfl)) (by decide) (own_fill_4_0_1 hw) (lenOf pd_1 rfl) d1_307 rfl rfl (Nat.le_of_eq rfl) (by decide) (by decide) (by decide) (by decide) rfl rfl rfl ?_
        rintro _ rfl
        refine oW.iinc (v := (1 : Int32)) (Ls' := #[.val (.ref a), .val (.ref b), .val (.int (4 : Int32)), .val (.ref a4), .val (.double v69_3), .second, .val (.ref a79), .val (.ref a84), .val (.ref a89), .val (.int (3 : Int32)), .val (.ref a225), .val (.int (1 : Int32)), .val (.int (1 : Int32)), .val (.double v61_2), .second]) (pc' := 313) K d1_310 rfl (by decide) rfl rfl ?_
        refine oW.goto (pc' := 232) K d1_313 (by decide) (by decide) ?_
        refine oW.iload (pc' := 234) K d1_232 rfl rfl ?_
        refine oW.iload (pc' := 236) K d1_234 rfl rfl ?_
        refine oW.icmp_ge (pc' := 316) (pc3 := 239) K d1_236 (by decide) (by decide) rfl (fun q => absurd q (by decide)) (fun _ => ?_)
        refine oW.iload (pc' := 241) K d1_239 rfl rfl ?_
        refine oW.iconst (v := (1 : Int32)) (pc' := 242) K d1_241 (by decide) rfl ?_
        refine oW.iadd (v := (2 : Int32)) (pc' := 243) K d1_242 (by decide) rfl ?_
        refine oW.iload (pc' := 245) K d1_243 rfl rfl ?_
        refine oW.icmp_ge (pc' := 258) (pc3 := 248) K d1_245 (by decide) (by decide) rfl (fun q => absurd q (by decide)) (fun _ => ?_)
        refine oW.aload (pc' := 250) K d1_248 rfl rfl rfl ?_
        refine oW.iload (pc' := 252) K d1_250 rfl rfl ?_
        refine oW.iconst (v := (1 : Int32)) (pc' := 253) K d1_252 (by decide) rfl ?_
        refine oW.iadd (v := (2 : Int32)) (pc' := 254) K d1_253 (by decide) rfl ?_
        refine oW.iaload (i := 3) (k := 2) (pc' := 255) K d1_254 rfl rfl (by decide) rfl rfl ?_
        refine oW.goto (pc' := 259) K d1_255 (by decide) (by decide) ?_
        refine oW.istore (Ls' := #[.val (.ref a), .val (.ref b), .val (.int (4 : Int32)), .val (.ref a4), .val (.double v69_3), .second, .val (.ref a79), .val (.ref a84), .val (.ref a89), .val (.int (3 : Int32)), .val (.ref a225), .val (.int (1 : Int32)), .val (.int (3 : Int32)), .val (.double v61_2), .second]) (pc' := 261) K d1_259 rfl rfl ?_
        refine oW.iload (pc' := 263) K d1_261 rfl rfl ?_
        refine oW.aload (pc' := 265) K d1_263 rfl rfl rfl ?_
        refine oW.iload (pc' := 267) K d1_265 rfl rfl ?_
        refine oW.iaload (i := 3) (k := 1) (pc' := 268) K d1_267 rfl rfl (by decide) rfl rfl ?_
        refine oW.isub (v := (2 : Int32)) (pc' := 269) K d1_268 (by decide) rfl ?_
        refine oW.iconst (v := (1 : Int32)) (pc' := 270) K d1_269 (by decide) rfl ?_
        refine oW.icmp_ne (pc' := 283) (pc3 := 273) K d1_270 (by decide) (by decide) rfl (fun _ => ?_) (fun q => absurd q (by decide))
        refine oW.aload (pc' := 285) K d1_283 rfl rfl rfl ?_
        refine oW.iload (pc' := 287) K d1_285 rfl rfl ?_
        refine oW.daload (i := 5) (k := 1) (pc' := 288) K d1_287 rfl rfl (by decide) rfl rfl ?_
        refine oW.aload (pc' := 290) K d1_288 rfl rfl rfl ?_
        refine oW.iload (pc' := 292) K d1_290 rfl rfl ?_
        refine oW.daload (i := 4) (k := 1) (pc' := 293) K d1_292 rfl rfl (by decide) rfl rfl ?_
        obtain ⟨v293, ev293⟩ : ∃ t_ : UInt64, t_ = FP.ddiv v210 v193 := ⟨_, rfl⟩
        refine oW.ddiv (pc' := 294) K d1_293 ev293 (qv210.divnn qv193 ev293 (by omega) (by decide) (by decide)) rfl ?_
        refine oW.dstore (Ls' := #[.val (.ref a), .val (.ref b), .val (.int (4 : Int32)), .val (.ref a4), .val (.double v69_3), .second, .val (.ref a79), .val (.ref a84), .val (.ref a89), .val (.int (3 : Int32)), .val (.ref a225), .val (.int (1 : Int32)), .val (.int (3 : Int32)), .val (.double v293), .second]) (pc' := 296) K d1_294 rfl rfl ?_
        refine oW.aload (pc' := 298) K d1_296 rfl rfl rfl ?_
        refine oW.aload (pc' := 300) K d1_298 rfl rfl rfl ?_
        refine oW.iload (pc' := 302) K d1_300 rfl rfl ?_
        refine oW.iaload (i := 3) (k := 1) (pc' := 303) K d1_302 rfl rfl (by decide) rfl rfl ?_
        refine oW.iload (pc' := 305) K d1_303 rfl rfl ?_
        refine oW.dload (pc' := 307) K d1_305 rfl rfl ?_
        refine oW.callS0 (argsL := [(.ref a225), (.int (1 : Int32)), (.int (3 : Int32)), (.double v293)]) (S := []) (rm := ({ frames := 1, cells := 0, slots := 0, locals := 30 } : Room)) (W := 0) (cells' := 5) (slots' := 20) (pc' := 310) K (hw _ (List.mem_of_getElem? (i := 9) rfl)) (hw _ (List.mem_of_getElem? (i := 10) rfl)) (hw _ (List.mem_of_getElem? (i := 11) rfl)) (hw _ (List.mem_of_getElem? (i := 12) rfl)) (by decide) (own_fill_4_1_3 hw) (lenOf pd_1 rfl) d1_307 rfl rfl (Nat.le_of_eq rfl) (by decide) (by decide) (by decide) (by decide) rfl rfl rfl ?_
        rintro _ rfl
        refine oW.iinc (v := (2 : Int32)) (Ls' := #[.val (.ref a), .val (.ref b), .val (.int (4 : Int32)), .val (.ref a4), .val (.double v69_3), .second, .val (.ref a79), .val (.ref a84), .val (.ref a89), .val (.int (3 : Int32)), .val (.ref a225), .val (.int (2 : Int32)), .val (.int (3 : Int32)), .val (.double v293), .second]) (pc' := 313) K d1_310 rfl (by decide) rfl rfl ?_
        refine oW.goto (pc' := 232) K d1_313 (by decide) (by decide) ?_
        refine oW.iload (pc' := 234) K d1_232 rfl rfl ?_
        refine oW.iload (pc' := 236) K d1_234 rfl rfl ?_
        refine oW.icmp_ge (pc' := 316) (pc3 := 239) K d1_236 (by decide) (by decide) rfl (fun q => absurd q (by decide)) (fun _ => ?_)
        refine oW.iload (pc' := 241) K d1_239 rfl rfl ?_
        refine oW.iconst (v := (1 : Int32)) (pc' := 242) K d1_241 (by decide) rfl ?_
        refine oW.iadd (v := (3 : Int32)) (pc' := 243) K d1_242 (by decide) rfl ?_
        refine oW.iload (pc' := 245) K d1_243 rfl rfl ?_
        refine oW.icmp_ge (pc' := 258) (pc3 := 248) K d1_245 (by decide) (by decide) rfl (fun _ => ?_) (fun q => absurd q (by decide))
        refine oW.iloadN (pc' := 259) K d1_258 rfl rfl ?_
        refine oW.istore (Ls' := #[.val (.ref a), .val (.ref b), .val (.int (4 : Int32)), .val (.ref a4), .val (.double v69_3), .second, .val (.ref a79), .val (.ref a84), .val (.ref a89), .val (.int (3 : Int32)), .val (.ref a225), .val (.int (2 : Int32)), .val (.int (4 : Int32)), .val (.double v293), .second]) (pc' := 261) K d1_259 rfl rfl ?_
        refine oW.iload (pc' := 263) K d1_261 rfl rfl ?_
        refine oW.aload (pc' := 265) K d1_263 rfl rfl rfl ?_
        refine oW.iload (pc' := 267) K d1_265 rfl rfl ?_
        refine oW.iaload (i := 3) (k := 2) (pc' := 268) K d1_267 rfl rfl (by decide) rfl rfl ?_
        refine oW.isub (v := (1 : Int32)) (pc' := 269) K d1_268 (by decide) rfl ?_
        refine oW.iconst (v := (1 : Int32)) (pc' := 270) K d1_269 (by decide) rfl ?_
        refine oW.icmp_ne (pc' := 283) (pc3 := 273) K d1_270 (by decide) (by decide) rfl (fun q => absurd q (by decide)) (fun _ => ?_)
        refine oW.aloadN (pc' := 274) K d1_273 rfl rfl rfl ?_
        refine oW.aload (pc' := 276) K d1_274 rfl rfl rfl ?_
        refine oW.iload (pc' := 278) K d1_276 rfl rfl ?_
        refine oW.iaload (i := 3) (k := 2) (pc' := 279) K d1_278 rfl rfl (by decide) rfl rfl ?_
        refine oW.daload (i := 2) (k := 3) (pc' := 280) K d1_279 rfl rfl (by decide) rfl rfl ?_
        refine oW.goto (pc' := 294) K d1_280 (by decide) (by decide) ?_
        refine oW.dstore (Ls' := #[.val (.ref a), .val (.ref b), .val (.int (4 : Int32)), .val (.ref a4), .val (.double v69_3), .second, .val (.ref a79), .val (.ref a84), .val (.ref a89), .val (.int (3 : Int32)), .val (.ref a225), .val (.int (2 : Int32)), .val (.int (4 : Int32)), .val (.double s3), .second]) (pc' := 296) K d1_294 rfl rfl ?_
        refine oW.aload (pc' := 298) K d1_296 rfl rfl rfl ?_
        refine oW.aload (pc' := 300) K d1_298 rfl rfl rfl ?_
        refine oW.iload (pc' := 302) K d1_300 rfl rfl ?_
        refine oW.iaload (i := 3) (k := 2) (pc' := 303) K d1_302 rfl rfl (by decide) rfl rfl ?_
        refine oW.iload (pc' := 305) K d1_303 rfl rfl ?_
        refine oW.dload (pc' := 307) K d1_305 rfl rfl ?_
        refine oW.callS0 (argsL := [(.ref a225), (.int (3 : Int32)), (.int (4 : Int32)), (.double s3)]) (S := []) (rm := ({ frames := 1, cells := 0, slots := 0, locals := 30 } : Room)) (W := 0) (cells' := 5) (slots' := 20) (pc' := 310) K (hw _ (List.mem_of_getElem? (i := 9) rfl)) (hw _ (List.mem_of_getElem? (i := 10) rfl)) (hw _ (List.mem_of_getElem? (i := 11) rfl)) (hw _ (List.mem_of_getElem? (i := 12) rfl)) (by decide) (own_fill_4_3_4 hw) (lenOf pd_1 rfl) d1_307 rfl rfl (Nat.le_of_eq rfl) (by decide) (by decide) (by decide) (by decide) rfl rfl rfl ?_
        rintro _ rfl
        refine oW.iinc (v := (3 : Int32)) (Ls' := #[.val (.ref a), .val (.ref b), .val (.int (4 : Int32)), .val (.ref a4), .val (.double v69_3), .second, .val (.ref a79), .val (.ref a84), .val (.ref a89), .val (.int (3 : Int32)), .val (.ref a225), .val (.int (3 : Int32)), .val (.int (4 : Int32)), .val (.double s3), .second]) (pc' := 313) K d1_310 rfl (by decide) rfl rfl ?_
        refine oW.goto (pc' := 232) K d1_313 (by decide) (by decide) ?_
        refine oW.iload (pc' := 234) K d1_232 rfl rfl ?_
        refine oW.iload (pc' := 236) K d1_234 rfl rfl ?_
        refine oW.icmp_ge (pc' := 316) (pc3 := 239) K d1_236 (by decide) (by decide) rfl (fun _ => ?_) (fun q => absurd q (by decide))
        refine oW.aload (pc' := 318) K d1_316 rfl rfl rfl ?_
        exact oW.retA K rfl rfl rfl d1_318 (by decide) (by decide) ⟨_, rfl, _, _, _, _, _, _, _, _, _, _, _, _, _, rfl, rfl, ⟨Or.inr (Or.inl ⟨by omega, by omega, by omega, qv61_2, ⟨_, _, ev293, qv210, qv193⟩, rfl⟩), (hs3.up 3 rfl (by decide) hR3)⟩⟩
      · rw [(qv210.quoR qv193 ev173_2 qv158_2 (by omega) (by omega) ev174_2).2.2] at c175_2
        refine oW.aload (pc' := 180) K d1_178 rfl rfl rfl ?_
        refine oW.iload (pc' := 182) K d1_180 rfl rfl ?_
        refine oW.iconst (v := (2 : Int32)) (pc' := 183) K d1_182 (by decide) rfl ?_
        refine oW.isub (v := (0 : Int32)) (pc' := 184) K d1_183 (by decide) rfl ?_
        refine oW.dup2 (pc' := 185) K d1_184 rfl rfl rfl ?_
        refine oW.daload (i := 4) (k := 0) (pc' := 186) K d1_185 rfl rfl (by decide) rfl rfl ?_
        refine oW.aload (pc' := 188) K d1_186 rfl rfl rfl ?_
        refine oW.iload (pc' := 190) K d1_188 rfl rfl ?_
        refine oW.iconst (v := (1 : Int32)) (pc' := 191) K d1_190 (by decide) rfl ?_
        refine oW.isub (v := (1 : Int32)) (pc' := 192) K d1_191 (by decide) rfl ?_
        refine oW.daload (i := 4) (k := 1) (pc' := 193) K d1_192 rfl rfl (by decide) rfl rfl ?_
        obtain ⟨v193_1, ev193_1⟩ : ∃ t_ : UInt64, t_ = FP.dadd p0 v193 := ⟨_, rfl⟩
        have qv193_1 : oQ (q0 + q1 + q2) 5 v193_1 := (hp0.add qv193 ev193_1 (by decide) (by omega)).cast rfl (by omega)
        refine oW.dadd (pc' := 194) K d1_193 ev193_1 (qv193_1.nn) rfl ?_
        refine oW.dastore (i := 4) (k := 0) (ds' := [(a, .inl (.double, [(.double s0), (.double s1), (.double s2), (.double s3)])), (b, .inl (.double, [(.double p0), (.double p1), (.double p2), (.double p3)])), (a4, .inl (.double, [(.double v61_2), (.double v61_1), (.double v61), (.double s3)])), (a79, .inl (.int, [(.int (0 : Int32)), (.int (1 : Int32)), (.int (2 : Int32)), (.int (0 : Int32))])), (a84, .inl (.double, [(.double v193_1), (.double v193), (.double p2), (.double (0 : UInt64))])), (a89, .inl (.double, [(.double v133), (.double v210), (.double v133_2), (.double (0 : UInt64))]))]) (pc' := 195) K d1_194 rfl rfl (by decide) (Nat.lt_of_sub_eq_succ rfl) rfl rfl ?_
        refine oW.aload (pc' := 197) K d1_195 rfl rfl rfl ?_
        refine oW.iload (pc' := 199) K d1_197 rfl rfl ?_
        refine oW.iconst (v := (2 : Int32)) (pc' := 200) K d1_199 (by decide) rfl ?_
        refine oW.isub (v := (0 : Int32)) (pc' := 201) K d1_200 (by decide) rfl ?_
        refine oW.dup2 (pc' := 202) K d1_201 rfl rfl rfl ?_
        refine oW.daload (i := 5) (k := 0) (pc' := 203) K d1_202 rfl rfl (by decide) rfl rfl ?_
        refine oW.aload (pc' := 205) K d1_203 rfl rfl rfl ?_
        refine oW.iload (pc' := 207) K d1_205 rfl rfl ?_
        refine oW.iconst (v := (1 : Int32)) (pc' := 208) K d1_207 (by decide) rfl ?_
        refine oW.isub (v := (1 : Int32)) (pc' := 209) K d1_208 (by decide) rfl ?_
        refine oW.daload (i := 5) (k := 1) (pc' := 210) K d1_209 rfl rfl (by decide) rfl rfl ?_
        obtain ⟨v210_1, ev210_1⟩ : ∃ t_ : UInt64, t_ = FP.dadd v133 v210 := ⟨_, rfl⟩
        have qv210_1 : oQ (q0 * R0 + q1 * R1 + q2 * R2) 8 v210_1 := (qv133.add qv210 ev210_1 (by decide) (by omega)).cast rfl (by omega)
        refine oW.dadd (pc' := 211) K d1_210 ev210_1 (qv210_1.nn) rfl ?_
        refine oW.dastore (i := 5) (k := 0) (ds' := [(a, .inl (.double, [(.double s0), (.double s1), (.double s2), (.double s3)])), (b, .inl (.double, [(.double p0), (.double p1), (.double p2), (.double p3)])), (a4, .inl (.double, [(.double v61_2), (.double v61_1), (.double v61), (.double s3)])), (a79, .inl (.int, [(.int (0 : Int32)), (.int (1 : Int32)), (.int (2 : Int32)), (.int (0 : Int32))])), (a84, .inl (.double, [(.double v193_1), (.double v193), (.double p2), (.double (0 : UInt64))])), (a89, .inl (.double, [(.double v210_1), (.double v210), (.double v133_2), (.double (0 : UInt64))]))]) (pc' := 212) K d1_211 rfl rfl (by decide) (Nat.lt_of_sub_eq_succ rfl) rfl rfl ?_
        refine oW.iinc (v := (1 : Int32)) (Ls' := #[.val (.ref a), .val (.ref b), .val (.int (4 : Int32)), .val (.ref a4), .val (.double v69_3), .second, .val (.ref a79), .val (.ref a84), .val (.ref a89), .val (.int (1 : Int32)), .val (.int (2 : Int32)), .unset, .unset, .unset, .unset]) (pc' := 215) K d1_212 rfl (by decide) rfl rfl ?_
        refine oW.goto (pc' := 138) K d1_215 (by decide) (by decide) ?_
        refine oW.iload (pc' := 140) K d1_138 rfl rfl ?_
        refine oW.iconst (v := (1 : Int32)) (pc' := 141) K d1_140 (by decide) rfl ?_
        refine oW.icmp_le (pc' := 218) (pc3 := 144) K d1_141 (by decide) (by decide) rfl (fun _ => ?_) (fun q => absurd q (by decide))
        refine oW.iinc (v := (3 : Int32)) (Ls' := #[.val (.ref a), .val (.ref b), .val (.int (4 : Int32)), .val (.ref a4), .val (.double v69_3), .second, .val (.ref a79), .val (.ref a84), .val (.ref a89), .val (.int (1 : Int32)), .val (.int (3 : Int32)), .unset, .unset, .unset, .unset]) (pc' := 221) K d1_218 rfl (by decide) rfl rfl ?_
        refine oW.goto (pc' := 99) K d1_221 (by decide) (by decide) ?_
        refine oW.iload (pc' := 101) K d1_99 rfl rfl ?_
        refine oW.iloadN (pc' := 102) K d1_101 rfl rfl ?_
        refine oW.icmp_ge (pc' := 224) (pc3 := 105) K d1_102 (by decide) (by decide) rfl (fun q => absurd q (by decide)) (fun _ => ?_)
        refine oW.aload (pc' := 107) K d1_105 rfl rfl rfl ?_
        refine oW.iload (pc' := 109) K d1_107 rfl rfl ?_
        refine oW.iload (pc' := 111) K d1_109 rfl rfl ?_
        refine oW.iastore (i := 3) (k := 1) (ds' := [(a, .inl (.double, [(.double s0), (.double s1), (.double s2), (.double s3)])), (b, .inl (.double, [(.double p0), (.double p1), (.double p2), (.double p3)])), (a4, .inl (.double, [(.double v61_2), (.double v61_1), (.double v61), (.double s3)])), (a79, .inl (.int, [(.int (0 : Int32)), (.int (3 : Int32)), (.int (2 : Int32)), (.int (0 : Int32))])), (a84, .inl (.double, [(.double v193_1), (.double v193), (.double p2), (.double (0 : UInt64))])), (a89, .inl (.double, [(.double v210_1), (.double v210), (.double v133_2), (.double (0 : UInt64))]))]) (pc' := 112) K d1_111 rfl rfl (by decide) (Nat.lt_of_sub_eq_succ rfl) rfl rfl ?_
        refine oW.aload (pc' := 114) K d1_112 rfl rfl rfl ?_
        refine oW.iload (pc' := 116) K d1_114 rfl rfl ?_
        refine oW.aloadN (pc' := 117) K d1_116 rfl rfl rfl ?_
        refine oW.iload (pc' := 119) K d1_117 rfl rfl ?_
        refine oW.daload (i := 1) (k := 3) (pc' := 120) K d1_119 rfl rfl (by decide) rfl rfl ?_
        refine oW.dastore (i := 4) (k := 1) (ds' := [(a, .inl (.double, [(.double s0), (.double s1), (.double s2), (.double s3)])), (b, .inl (.double, [(.double p0), (.double p1), (.double p2), (.double p3)])), (a4, .inl (.double, [(.double v61_2), (.double v61_1), (.double v61), (.double s3)])), (a79, .inl (.int, [(.int (0 : Int32)), (.int (3 : Int32)), (.int (2 : Int32)), (.int (0 : Int32))])), (a84, .inl (.double, [(.double v193_1), (.double p3), (.double p2), (.double (0 : UInt64))])), (a89, .inl (.double, [(.double v210_1), (.double v210), (.double v133_2), (.double (0 : UInt64))]))]) (pc' := 121) K d1_120 rfl rfl (by decide) (Nat.lt_of_sub_eq_succ rfl) rfl rfl ?_
        refine oW.aload (pc' := 123) K d1_121 rfl rfl rfl ?_
        refine oW.iload (pc' := 125) K d1_123 rfl rfl ?_
        refine oW.aloadN (pc' := 126) K d1_125 rfl rfl rfl ?_
        refine oW.iload (pc' := 128) K d1_126 rfl rfl ?_
        refine oW.daload (i := 1) (k := 3) (pc' := 129) K d1_128 rfl rfl (by decide) rfl rfl ?_
        refine oW.aloadN (pc' := 130) K d1_129 rfl rfl rfl ?_
        refine oW.iload (pc' := 132) K d1_130 rfl rfl ?_
        refine oW.daload (i := 2) (k := 3) (pc' := 133) K d1_132 rfl rfl (by decide) rfl rfl ?_
        obtain ⟨v133_3, ev133_3⟩ : ∃ t_ : UInt64, t_ = FP.dmul p3 s3 := ⟨_, rfl⟩
        have qv133_3 : oQ (q3 * R3) 8 v133_3 := (hp3.mul (hs3.up 3 rfl (by decide) hR3) ev133_3 (by decide) (by omega)).cast rfl rfl
        refine oW.dmul (pc' := 134) K d1_133 ev133_3 (qv133_3.nn) rfl ?_
        refine oW.dastore (i := 5) (k := 1) (ds' := [(a, .inl (.double, [(.double s0), (.double s1), (.double s2), (.double s3)])), (b, .inl (.double, [(.double p0), (.double p1), (.double p2), (.double p3)])), (a4, .inl (.double, [(.double v61_2), (.double v61_1), (.double v61), (.double s3)])), (a79, .inl (.int, [(.int (0 : Int32)), (.int (3 : Int32)), (.int (2 : Int32)), (.int (0 : Int32))])), (a84, .inl (.double, [(.double v193_1), (.double p3), (.double p2), (.double (0 : UInt64))])), (a89, .inl (.double, [(.double v210_1), (.double v133_3), (.double v133_2), (.double (0 : UInt64))]))]) (pc' := 135) K d1_134 rfl rfl (by decide) (Nat.lt_of_sub_eq_succ rfl) rfl rfl ?_
        refine oW.iinc (v := (2 : Int32)) (Ls' := #[.val (.ref a), .val (.ref b), .val (.int (4 : Int32)), .val (.ref a4), .val (.double v69_3), .second, .val (.ref a79), .val (.ref a84), .val (.ref a89), .val (.int (2 : Int32)), .val (.int (3 : Int32)), .unset, .unset, .unset, .unset]) (pc' := 138) K d1_135 rfl (by decide) rfl rfl ?_
        refine oW.iload (pc' := 140) K d1_138 rfl rfl ?_
        refine oW.iconst (v := (1 : Int32)) (pc' := 141) K d1_140 (by decide) rfl ?_
        refine oW.icmp_le (pc' := 218) (pc3 := 144) K d1_141 (by decide) (by decide) rfl (fun q => absurd q (by decide)) (fun _ => ?_)
        refine oW.aload (pc' := 146) K d1_144 rfl rfl rfl ?_
        refine oW.iload (pc' := 148) K d1_146 rfl rfl ?_
        refine oW.iconst (v := (2 : Int32)) (pc' := 149) K d1_148 (by decide) rfl ?_
        refine oW.isub (v := (0 : Int32)) (pc' := 150) K d1_149 (by decide) rfl ?_
        refine oW.daload (i := 5) (k := 0) (pc' := 151) K d1_150 rfl rfl (by decide) rfl rfl ?_
        refine oW.aload (pc' := 153) K d1_151 rfl rfl rfl ?_
        refine oW.iload (pc' := 155) K d1_153 rfl rfl ?_
        refine oW.iconst (v := (2 : Int32)) (pc' := 156) K d1_155 (by decide) rfl ?_
        refine oW.isub (v := (0 : Int32)) (pc' := 157) K d1_156 (by decide) rfl ?_
        refine oW.daload (i := 4) (k := 0) (pc' := 158) K d1_157 rfl rfl (by decide) rfl rfl ?_
        obtain ⟨v158_3, ev158_3⟩ : ∃ t_ : UInt64, t_ = FP.ddiv v210_1 v193_1 := ⟨_, rfl⟩
        refine oW.ddiv (pc' := 159) K d1_158 ev158_3 (qv210_1.divnn qv193_1 ev158_3 (by omega) (by decide) (by decide)) rfl ?_
        refine oW.aload (pc' := 161) K d1_159 rfl rfl rfl ?_
        refine oW.iload (pc' := 163) K d1_161 rfl rfl ?_
        refine oW.iconst (v := (1 : Int32)) (pc' := 164) K d1_163 (by decide) rfl ?_
        refine oW.isub (v := (1 : Int32)) (pc' := 165) K d1_164 (by decide) rfl ?_
        refine oW.daload (i := 5) (k := 1) (pc' := 166) K d1_165 rfl rfl (by decide) rfl rfl ?_
        refine oW.aload (pc' := 168) K d1_166 rfl rfl rfl ?_
        refine oW.iload (pc' := 170) K d1_168 rfl rfl ?_
        refine oW.iconst (v := (1 : Int32)) (pc' := 171) K d1_170 (by decide) rfl ?_
        refine oW.isub (v := (1 : Int32)) (pc' := 172) K d1_171 (by decide) rfl ?_
        refine oW.daload (i := 4) (k := 1) (pc' := 173) K d1_172 rfl rfl (by decide) rfl rfl ?_
        obtain ⟨v173_3, ev173_3⟩ : ∃ t_ : UInt64, t_ = FP.ddiv v133_3 p3 := ⟨_, rfl⟩
        have qv173_3 : oQ (R3) 3 v173_3 := qv133_3.divx hp3 ev173_3 _ 3 (by omega) (by decide) (by decide) (by decide) (by omega) oD83
        refine oW.ddiv (pc' := 174) K d1_173 ev173_3 (qv173_3.nn) rfl ?_
        obtain ⟨v174_3, ev174_3⟩ : ∃ t_ : Int32, t_ = cmpValue (FP.dcmp v158_3 v173_3) .l := ⟨_, rfl⟩
        refine oW.dcmp (pc' := 175) K d1_174 ev174_3 rfl ?_
        refine oW.if_le (pc' := 218) (pc3 := 178) K d1_175 (by decide) (by decide) rfl (fun c175_3 => ?_) (fun q => absurd ((qv210_1.quoL qv193_1 ev158_3 qv173_3 (by omega) (by omega) ev174_3).2.2.mp q) (by have hav := oAvg3 (q0 := q0) (q1 := q1) (q2 := q2) (by omega) (by omega) (by omega) hm0 hm1 hm2; omega))
        refine oW.iinc (v := (4 : Int32)) (Ls' := #[.val (.ref a), .val (.ref b), .val (.int (4 : Int32)), .val (.ref a4), .val (.double v69_3), .second, .val (.ref a79), .val (.ref a84), .val (.ref a89), .val (.int (2 : Int32)), .val (.int (4 : Int32)), .unset, .unset, .unset, .unset]) (pc' := 221) K d1_218 rfl (by decide) rfl rfl ?_
        refine oW.goto (pc' := 99) K d1_221 (by decide) (by decide) ?_
        refine oW.iload (pc' := 101) K d1_99 rfl rfl ?_
        refine oW.iloadN (pc' := 102) K d1_101 rfl rfl ?_
        refine oW.icmp_ge (pc' := 224) (pc3 := 105) K d1_102 (by decide) (by decide) rfl (fun _ => ?_) (fun q => absurd q (by decide))
        refine oW.iloadN (pc' := 225) K d1_224 rfl rfl ?_
        refine oW.newarr (n := 4) (cells' := 5) (slots' := 20) (dsf := fun z => [(a, .inl (.double, [(.double s0), (.double s1), (.double s2), (.double s3)])), (b, .inl (.double, [(.double p0), (.double p1), (.double p2), (.double p3)])), (a4, .inl (.double, [(.double v61_2), (.double v61_1), (.double v61), (.double s3)])), (a79, .inl (.int, [(.int (0 : Int32)), (.int (3 : Int32)), (.int (2 : Int32)), (.int (0 : Int32))])), (a84, .inl (.double, [(.double v193_1), (.double p3), (.double p2), (.double (0 : UInt64))])), (a89, .inl (.double, [(.double v210_1), (.double v133_3), (.double v133_2), (.double (0 : UInt64))])), (z, .inl (.double, [(.double (0 : UInt64)), (.double (0 : UInt64)), (.double (0 : UInt64)), (.double (0 : UInt64))]))]) (pc' := 227) K (hw _ (List.mem_of_getElem? (i := 2) rfl)) d1_225 rfl (by decide) (by decide) (by decide) (by decide) rfl rfl (fun _ => rfl) rfl ?_
        intro a225 ha225
        refine oW.astore (Ls' := #[.val (.ref a), .val (.ref b), .val (.int (4 : Int32)), .val (.ref a4), .val (.double v69_3), .second, .val (.ref a79), .val (.ref a84), .val (.ref a89), .val (.int (2 : Int32)), .val (.ref a225), .unset, .unset, .unset, .unset]) (pc' := 229) K d1_227 rfl rfl rfl ?_
        refine oW.iconst (v := (0 : Int32)) (pc' := 230) K d1_229 (by decide) rfl ?_
        refine oW.istore (Ls' := #[.val (.ref a), .val (.ref b), .val (.int (4 : Int32)), .val (.ref a4), .val (.double v69_3), .second, .val (.ref a79), .val (.ref a84), .val (.ref a89), .val (.int (2 : Int32)), .val (.ref a225), .val (.int (0 : Int32)), .unset, .unset, .unset]) (pc' := 232) K d1_230 rfl rfl ?_
        refine oW.iload (pc' := 234) K d1_232 rfl rfl ?_
        refine oW.iload (pc' := 236) K d1_234 rfl rfl ?_
        refine oW.icmp_ge (pc' := 316) (pc3 := 239) K d1_236 (by decide) (by decide) rfl (fun q => absurd q (by decide)) (fun _ => ?_)
        refine oW.iload (pc' := 241) K d1_239 rfl rfl ?_
        refine oW.iconst (v := (1 : Int32)) (pc' := 242) K d1_241 (by decide) rfl ?_
        refine oW.iadd (v := (1 : Int32)) (pc' := 243) K d1_242 (by decide) rfl ?_
        refine oW.iload (pc' := 245) K d1_243 rfl rfl ?_
        refine oW.icmp_ge (pc' := 258) (pc3 := 248) K d1_245 (by decide) (by decide) rfl (fun q => absurd q (by decide)) (fun _ => ?_)
        refine oW.aload (pc' := 250) K d1_248 rfl rfl rfl ?_
        refine oW.iload (pc' := 252) K d1_250 rfl rfl ?_
        refine oW.iconst (v := (1 : Int32)) (pc' := 253) K d1_252 (by decide) rfl ?_
        refine oW.iadd (v := (1 : Int32)) (pc' := 254) K d1_253 (by decide) rfl ?_
        refine oW.iaload (i := 3) (k := 1) (pc' := 255) K d1_254 rfl rfl (by decide) rfl rfl ?_
        refine oW.goto (pc' := 259) K d1_255 (by decide) (by decide) ?_
        refine oW.istore (Ls' := #[.val (.ref a), .val (.ref b), .val (.int (4 : Int32)), .val (.ref a4), .val (.double v69_3), .second, .val (.ref a79), .val (.ref a84), .val (.ref a89), .val (.int (2 : Int32)), .val (.ref a225), .val (.int (0 : Int32)), .val (.int (3 : Int32)), .unset, .unset]) (pc' := 261) K d1_259 rfl rfl ?_
        refine oW.iload (pc' := 263) K d1_261 rfl rfl ?_
        refine oW.aload (pc' := 265) K d1_263 rfl rfl rfl ?_
        refine oW.iload (pc' := 267) K d1_265 rfl rfl ?_
        refine oW.iaload (i := 3) (k := 0) (pc' := 268) K d1_267 rfl rfl (by decide) rfl rfl ?_
        refine oW.isub (v := (3 : Int32)) (pc' := 269) K d1_268 (by decide) rfl ?_
        refine oW.iconst (v := (1 : Int32)) (pc' := 270) K d1_269 (by decide) rfl ?_
        refine oW.icmp_ne (pc' := 283) (pc3 := 273) K d1_270 (by decide) (by decide) rfl (fun _ => ?_) (fun q => absurd q (by decide))
        refine oW.aload (pc' := 285) K d1_283 rfl rfl rfl ?_
        refine oW.iload (pc' := 287) K d1_285 rfl rfl ?_
        refine oW.daload (i := 5) (k := 0) (pc' := 288) K d1_287 rfl rfl (by decide) rfl rfl ?_
        refine oW.aload (pc' := 290) K d1_288 rfl rfl rfl ?_
        refine oW.iload (pc' := 292) K d1_290 rfl rfl ?_
        refine oW.daload (i := 4) (k := 0) (pc' := 293) K d1_292 rfl rfl (by decide) rfl rfl ?_
        obtain ⟨v293, ev293⟩ : ∃ t_ : UInt64, t_ = FP.ddiv v210_1 v193_1 := ⟨_, rfl⟩
        refine oW.ddiv (pc' := 294) K d1_293 ev293 (qv210_1.divnn qv193_1 ev293 (by omega) (by decide) (by decide)) rfl ?_
        refine oW.dstore (Ls' := #[.val (.ref a), .val (.ref b), .val (.int (4 : Int32)), .val (.ref a4), .val (.double v69_3), .second, .val (.ref a79), .val (.ref a84), .val (.ref a89), .val (.int (2 : Int32)), .val (.ref a225), .val (.int (0 : Int32)), .val (.int (3 : Int32)), .val (.double v293), .second]) (pc' := 296) K d1_294 rfl rfl ?_
        refine oW.aload (pc' := 298) K d1_296 rfl rfl rfl ?_
        refine oW.aload (pc' := 300) K d1_298 rfl rfl rfl ?_
        refine oW.iload (pc' := 302) K d1_300 rfl rfl ?_
        refine oW.iaload (i := 3) (k := 0) (pc' := 303) K d1_302 rfl rfl (by decide) rfl rfl ?_
        refine oW.iload (pc' := 305) K d1_303 rfl rfl ?_
        refine oW.dload (pc' := 307) K d1_305 rfl rfl ?_
        refine oW.callS0 (argsL := [(.ref a225), (.int (0 : Int32)), (.int (3 : Int32)), (.double v293)]) (S := []) (rm := ({ frames := 1, cells := 0, slots := 0, locals := 30 } : Room)) (W := 0) (cells' := 5) (slots' := 20) (pc' := 310) K (hw _ (List.mem_of_getElem? (i := 9) rfl)) (hw _ (List.mem_of_getElem? (i := 10) rfl)) (hw _ (List.mem_of_getElem? (i := 11) rfl)) (hw _ (List.mem_of_getElem? (i := 12) rfl)) (by decide) (own_fill_4_0_3 hw) (lenOf pd_1 rfl) d1_307 rfl rfl (Nat.le_of_eq rfl) (by decide) (by decide) (by decide) (by decide) rfl rfl rfl ?_
        rintro _ rfl
        refine oW.iinc (v := (1 : Int32)) (Ls' := #[.val (.ref a), .val (.ref b), .val (.int (4 : Int32)), .val (.ref a4), .val (.double v69_3), .second, .val (.ref a79), .val (.ref a84), .val (.ref a89), .val (.int (2 : Int32)), .val (.ref a225), .val (.int (1 : Int32)), .val (.int (3 : Int32)), .val (.double v293), .second]) (pc' := 313) K d1_310 rfl (by decide) rfl rfl ?_
        refine oW.goto (pc' := 232) K d1_313 (by decide) (by decide) ?_
        refine oW.iload (pc' := 234) K d1_232 rfl rfl ?_
        refine oW.iload (pc' := 236) K d1_234 rfl rfl ?_
        refine oW.icmp_ge (pc' := 316) (pc3 := 239) K d1_236 (by decide) (by decide) rfl (fun q => absurd q (by decide)) (fun _ => ?_)
        refine oW.iload (pc' := 241) K d1_239 rfl rfl ?_
        refine oW.iconst (v := (1 : Int32)) (pc' := 242) K d1_241 (by decide) rfl ?_
        refine oW.iadd (v := (2 : Int32)) (pc' := 243) K d1_242 (by decide) rfl ?_
        refine oW.iload (pc' := 245) K d1_243 rfl rfl ?_
        refine oW.icmp_ge (pc' := 258) (pc3 := 248) K d1_245 (by decide) (by decide) rfl (fun _ => ?_) (fun q => absurd q (by decide))
        refine oW.iloadN (pc' := 259) K d1_258 rfl rfl ?_
        refine oW.istore (Ls' := #[.val (.ref a), .val (.ref b), .val (.int (4 : Int32)), .val (.ref a4), .val (.double v69_3), .second, .val (.ref a79), .val (.ref a84), .val (.ref a89), .val (.int (2 : Int32)), .val (.ref a225), .val (.int (1 : Int32)), .val (.int (4 : Int32)), .val (.double v293), .second]) (pc' := 261) K d1_259 rfl rfl ?_
        refine oW.iload (pc' := 263) K d1_261 rfl rfl ?_
        refine oW.aload (pc' := 265) K d1_263 rfl rfl rfl ?_
        refine oW.iload (pc' := 267) K d1_265 rfl rfl ?_
        refine oW.iaload (i := 3) (k := 1) (pc' := 268) K d1_267 rfl rfl (by decide) rfl rfl ?_
        refine oW.isub (v := (1 : Int32)) (pc' := 269) K d1_268 (by decide) rfl ?_
        refine oW.iconst (v := (1 : Int32)) (pc' := 270) K d1_269 (by decide) rfl ?_
        refine oW.icmp_ne (pc' := 283) (pc3 := 273) K d1_270 (by decide) (by decide) rfl (fun q => absurd q (by decide)) (fun _ => ?_)
        refine oW.aloadN (pc' := 274) K d1_273 rfl rfl rfl ?_
        refine oW.aload (pc' := 276) K d1_274 rfl rfl rfl ?_
        refine oW.iload (pc' := 278) K d1_276 rfl rfl ?_
        refine oW.iaload (i := 3) (k := 1) (pc' := 279) K d1_278 rfl rfl (by decide) rfl rfl ?_
        refine oW.daload (i := 2) (k := 3) (pc' := 280) K d1_279 rfl rfl (by decide) rfl rfl ?_
        refine oW.goto (pc' := 294) K d1_280 (by decide) (by decide) ?_
        refine oW.dstore (Ls' := #[.val (.ref a), .val (.ref b), .val (.int (4 : Int32)), .val (.ref a4), .val (.double v69_3), .second, .val (.ref a79), .val (.ref a84), .val (.ref a89), .val (.int (2 : Int32)), .val (.ref a225), .val (.int (1 : Int32)), .val (.int (4 : Int32)), .val (.double s3), .second]) (pc' := 296) K d1_294 rfl rfl ?_
        refine oW.aload (pc' := 298) K d1_296 rfl rfl rfl ?_
        refine oW.aload (pc' := 300) K d1_298 rfl rfl rfl ?_
        refine oW.iload (pc' := 302) K d1_300 rfl rfl ?_
        refine oW.iaload (i := 3) (k := 1) (pc' := 303) K d1_302 rfl rfl (by decide) rfl rfl ?_
        refine oW.iload (pc' := 305) K d1_303 rfl rfl ?_
        refine oW.dload (pc' := 307) K d1_305 rfl rfl ?_
        refine oW.callS0 (argsL := [(.ref a225), (.int (3 : Int32)), (.int (4 : Int32)), (.double s3)]) (S := []) (rm := ({ frames := 1, cells := 0, slots := 0, locals := 30 } : Room)) (W := 0) (cells' := 5) (slots' := 20) (pc' := 310) K (hw _ (List.mem_of_getElem? (i := 9) rfl)) (hw _ (List.mem_of_getElem? (i := 10) rfl)) (hw _ (List.mem_of_getElem? (i := 11) rfl)) (hw _ (List.mem_of_getElem? (i := 12) rfl)) (by decide) (own_fill_4_3_4 hw) (lenOf pd_1 rfl) d1_307 rfl rfl (Nat.le_of_eq rfl) (by decide) (by decide) (by decide) (by decide) rfl rfl rfl ?_
        rintro _ rfl
        refine oW.iinc (v := (2 : Int32)) (Ls' := #[.val (.ref a), .val (.ref b), .val (.int (4 : Int32)), .val (.ref a4), .val (.double v69_3), .second, .val (.ref a79), .val (.ref a84), .val (.ref a89), .val (.int (2 : Int32)), .val (.ref a225), .val (.int (2 : Int32)), .val (.int (4 : Int32)), .val (.double s3), .second]) (pc' := 313) K d1_310 rfl (by decide) rfl rfl ?_
        refine oW.goto (pc' := 232) K d1_313 (by decide) (by decide) ?_
        refine oW.iload (pc' := 234) K d1_232 rfl rfl ?_
        refine oW.iload (pc' := 236) K d1_234 rfl rfl ?_
        refine oW.icmp_ge (pc' := 316) (pc3 := 239) K d1_236 (by decide) (by decide) rfl (fun _ => ?_) (fun q => absurd q (by decide))
        refine oW.aload (pc' := 318) K d1_316 rfl rfl rfl ?_
        exact oW.retA K rfl rfl rfl d1_318 (by decide) (by decide) ⟨_, rfl, _, _, _, _, _, _, _, _, _, _, _, _, _, rfl, rfl, ⟨Or.inr (Or.inr (Or.inl ⟨by omega, by omega, by omega, ⟨_, _, ev293, qv210_1, qv193_1⟩, rfl, rfl⟩)), (hs3.up 3 rfl (by decide) hR3)⟩⟩
  · rw [(qv158.cmp qv173 ev174).2.2] at c175
    refine oW.aload (pc' := 180) K d1_178 rfl rfl rfl ?_
    refine oW.iload (pc' := 182) K d1_180 rfl rfl ?_
    refine oW.iconst (v := (2 : Int32)) (pc' := 183) K d1_182 (by decide) rfl ?_
    refine oW.isub (v := (0 : Int32)) (pc' := 184) K d1_183 (by decide) rfl ?_
    refine oW.dup2 (pc' := 185) K d1_184 rfl rfl rfl ?_
    refine oW.daload (i := 4) (k := 0) (pc' := 186) K d1_185 rfl rfl (by decide) rfl rfl ?_
    refine oW.aload (pc' := 188) K d1_186 rfl rfl rfl ?_
    refine oW.iload (pc' := 190) K d1_188 rfl rfl ?_
    refine oW.iconst (v := (1 : Int32)) (pc' := 191) K d1_190 (by decide) rfl ?_
    refine oW.isub (v := (1 : Int32)) (pc' := 192) K d1_191 (by decide) rfl ?_
    refine oW.daload (i := 4) (k := 1) (pc' := 193) K d1_192 rfl rfl (by decide) rfl rfl ?_
    obtain ⟨v193, ev193⟩ : ∃ t_ : UInt64, t_ = FP.dadd p0 p1 := ⟨_, rfl⟩
    have qv193 : oQ (q0 + q1) 5 v193 := (hp0.add hp1 ev193 (by decide) (by omega)).cast rfl (by omega)
    refine oW.dadd (pc' := 194) K d1_193 ev193 (qv193.nn) rfl ?_
    refine oW.dastore (i := 4) (k := 0) (ds' := [(a, .inl (.double, [(.double s0), (.double s1), (.double s2), (.double s3)])), (b, .inl (.double, [(.double p0), (.double p1), (.double p2), (.double p3)])), (a4, .inl (.double, [(.double v61_2), (.double v61_1), (.double v61), (.double s3)])), (a79, .inl (.int, [(.int (0 : Int32)), (.int (1 : Int32)), (.int (0 : Int32)), (.int (0 : Int32))])), (a84, .inl (.double, [(.double v193), (.double p1), (.double (0 : UInt64)), (.double (0 : UInt64))])), (a89, .inl (.double, [(.double v133), (.double v133_1), (.double (0 : UInt64)), (.double (0 : UInt64))]))]) (pc' := 195) K d1_194 rfl rfl (by decide) (Nat.lt_of_sub_eq_succ rfl) rfl rfl ?_
    refine oW.aload (pc' := 197) K d1_195 rfl rfl rfl ?_
    refine oW.iload (pc' := 199) K d1_197 rfl rfl ?_
    refine oW.iconst (v := (2 : Int32)) (pc' := 200) K d1_199 (by decide) rfl ?_
    refine oW.isub (v := (0 : Int32)) (pc' := 201) K d1_200 (by decide) rfl ?_
    refine oW.dup2 (pc' := 202) K d1_201 rfl rfl rfl ?_
    refine oW.daload (i := 5) (k := 0) (pc' := 203) K d1_202 rfl rfl (by decide) rfl rfl ?_
    refine oW.aload (pc' := 205) K d1_203 rfl rfl rfl ?_
    refine oW.iload (pc' := 207) K d1_205 rfl rfl ?_
    refine oW.iconst (v := (1 : Int32)) (pc' := 208) K d1_207 (by decide) rfl ?_
    refine oW.isub (v := (1 : Int32)) (pc' := 209) K d1_208 (by decide) rfl ?_
    refine oW.daload (i := 5) (k := 1) (pc' := 210) K d1_209 rfl rfl (by decide) rfl rfl ?_
    obtain ⟨v210, ev210⟩ : ∃ t_ : UInt64, t_ = FP.dadd v133 v133_1 := ⟨_, rfl⟩
    have qv210 : oQ (q0 * R0 + q1 * R1) 8 v210 := (qv133.add qv133_1 ev210 (by decide) (by omega)).cast rfl (by omega)
    refine oW.dadd (pc' := 211) K d1_210 ev210 (qv210.nn) rfl ?_
    refine oW.dastore (i := 5) (k := 0) (ds' := [(a, .inl (.double, [(.double s0), (.double s1), (.double s2), (.double s3)])), (b, .inl (.double, [(.double p0), (.double p1), (.double p2), (.double p3)])), (a4, .inl (.double, [(.double v61_2), (.double v61_1), (.double v61), (.double s3)])), (a79, .inl (.int, [(.int (0 : Int32)), (.int (1 : Int32)), (.int (0 : Int32)), (.int (0 : Int32))])), (a84, .inl (.double, [(.double v193), (.double p1), (.double (0 : UInt64)), (.double (0 : UInt64))])), (a89, .inl (.double, [(.double v210), (.double v133_1), (.double (0 : UInt64)), (.double (0 : UInt64))]))]) (pc' := 212) K d1_211 rfl rfl (by decide) (Nat.lt_of_sub_eq_succ rfl) rfl rfl ?_
    refine oW.iinc (v := (1 : Int32)) (Ls' := #[.val (.ref a), .val (.ref b), .val (.int (4 : Int32)), .val (.ref a4), .val (.double v69_3), .second, .val (.ref a79), .val (.ref a84), .val (.ref a89), .val (.int (1 : Int32)), .val (.int (1 : Int32)), .unset, .unset, .unset, .unset]) (pc' := 215) K d1_212 rfl (by decide) rfl rfl ?_
    refine oW.goto (pc' := 138) K d1_215 (by decide) (by decide) ?_
    refine oW.iload (pc' := 140) K d1_138 rfl rfl ?_
    refine oW.iconst (v := (1 : Int32)) (pc' := 141) K d1_140 (by decide) rfl ?_
    refine oW.icmp_le (pc' := 218) (pc3 := 144) K d1_141 (by decide) (by decide) rfl (fun _ => ?_) (fun q => absurd q (by decide))
    refine oW.iinc (v := (2 : Int32)) (Ls' := #[.val (.ref a), .val (.ref b), .val (.int (4 : Int32)), .val (.ref a4), .val (.double v69_3), .second, .val (.ref a79), .val (.ref a84), .val (.ref a89), .val (.int (1 : Int32)), .val (.int (2 : Int32)), .unset, .unset, .unset, .unset]) (pc' := 221) K d1_218 rfl (by decide) rfl rfl ?_
    refine oW.goto (pc' := 99) K d1_221 (by decide) (by decide) ?_
    refine oW.iload (pc' := 101) K d1_99 rfl rfl ?_
    refine oW.iloadN (pc' := 102) K d1_101 rfl rfl ?_
    refine oW.icmp_ge (pc' := 224) (pc3 := 105) K d1_102 (by decide) (by decide) rfl (fun q => absurd q (by decide)) (fun _ => ?_)
    refine oW.aload (pc' := 107) K d1_105 rfl rfl rfl ?_
    refine oW.iload (pc' := 109) K d1_107 rfl rfl ?_
    refine oW.iload (pc' := 111) K d1_109 rfl rfl ?_
    refine oW.iastore (i := 3) (k := 1) (ds' := [(a, .inl (.double, [(.double s0), (.double s1), (.double s2), (.double s3)])), (b, .inl (.double, [(.double p0), (.double p1), (.double p2), (.double p3)])), (a4, .inl (.double, [(.double v61_2), (.double v61_1), (.double v61), (.double s3)])), (a79, .inl (.int, [(.int (0 : Int32)), (.int (2 : Int32)), (.int (0 : Int32)), (.int (0 : Int32))])), (a84, .inl (.double, [(.double v193), (.double p1), (.double (0 : UInt64)), (.double (0 : UInt64))])), (a89, .inl (.double, [(.double v210), (.double v133_1), (.double (0 : UInt64)), (.double (0 : UInt64))]))]) (pc' := 112) K d1_111 rfl rfl (by decide) (Nat.lt_of_sub_eq_succ rfl) rfl rfl ?_
    refine oW.aload (pc' := 114) K d1_112 rfl rfl rfl ?_
    refine oW.iload (pc' := 116) K d1_114 rfl rfl ?_
    refine oW.aloadN (pc' := 117) K d1_116 rfl rfl rfl ?_
    refine oW.iload (pc' := 119) K d1_117 rfl rfl ?_
    refine oW.daload (i := 1) (k := 2) (pc' := 120) K d1_119 rfl rfl (by decide) rfl rfl ?_
    refine oW.dastore (i := 4) (k := 1) (ds' := [(a, .inl (.double, [(.double s0), (.double s1), (.double s2), (.double s3)])), (b, .inl (.double, [(.double p0), (.double p1), (.double p2), (.double p3)])), (a4, .inl (.double, [(.double v61_2), (.double v61_1), (.double v61), (.double s3)])), (a79, .inl (.int, [(.int (0 : Int32)), (.int (2 : Int32)), (.int (0 : Int32)), (.int (0 : Int32))])), (a84, .inl (.double, [(.double v193), (.double p2), (.double (0 : UInt64)), (.double (0 : UInt64))])), (a89, .inl (.double, [(.double v210), (.double v133_1), (.double (0 : UInt64)), (.double (0 : UInt64))]))]) (pc' := 121) K d1_120 rfl rfl (by decide) (Nat.lt_of_sub_eq_succ rfl) rfl rfl ?_
    refine oW.aload (pc' := 123) K d1_121 rfl rfl rfl ?_
    refine oW.iload (pc' := 125) K d1_123 rfl rfl ?_
    refine oW.aloadN (pc' := 126) K d1_125 rfl rfl rfl ?_
    refine oW.iload (pc' := 128) K d1_126 rfl rfl ?_
    refine oW.daload (i := 1) (k := 2) (pc' := 129) K d1_128 rfl rfl (by decide) rfl rfl ?_
    refine oW.aloadN (pc' := 130) K d1_129 rfl rfl rfl ?_
    refine oW.iload (pc' := 132) K d1_130 rfl rfl ?_
    refine oW.daload (i := 2) (k := 2) (pc' := 133) K d1_132 rfl rfl (by decide) rfl rfl ?_
    obtain ⟨v133_2, ev133_2⟩ : ∃ t_ : UInt64, t_ = FP.dmul p2 v61 := ⟨_, rfl⟩
    have qv133_2 : oQ (q2 * R2) 8 v133_2 := (hp2.mul qv61 ev133_2 (by decide) (by omega)).cast rfl rfl
    refine oW.dmul (pc' := 134) K d1_133 ev133_2 (qv133_2.nn) rfl ?_
    refine oW.dastore (i := 5) (k := 1) (ds' := [(a, .inl (.double, [(.double s0), (.double s1), (.double s2), (.double s3)])), (b, .inl (.double, [(.double p0), (.double p1), (.double p2), (.double p3)])), (a4, .inl (.double, [(.double v61_2), (.double v61_1), (.double v61), (.double s3)])), (a79, .inl (.int, [(.int (0 : Int32)), (.int (2 : Int32)), (.int (0 : Int32)), (.int (0 : Int32))])), (a84, .inl (.double, [(.double v193), (.double p2), (.double (0 : UInt64)), (.double (0 : UInt64))])), (a89, .inl (.double, [(.double v210), (.double v133_2), (.double (0 : UInt64)), (.double (0 : UInt64))]))]) (pc' := 135) K d1_134 rfl rfl (by decide) (Nat.lt_of_sub_eq_succ rfl) rfl rfl ?_
    refine oW.iinc (v := (2 : Int32)) (Ls' := #[.val (.ref a), .val (.ref b), .val (.int (4 : Int32)), .val (.ref a4), .val (.double v69_3), .second, .val (.ref a79), .val (.ref a84), .val (.ref a89), .val (.int (2 : Int32)), .val (.int (2 : Int32)), .unset, .unset, .unset, .unset]) (pc' := 138) K d1_135 rfl (by decide) rfl rfl ?_
    refine oW.iload (pc' := 140) K d1_138 rfl rfl ?_
    refine oW.iconst (v := (1 : Int32)) (pc' := 141) K d1_140 (by decide) rfl ?_
    refine oW.icmp_le (pc' := 218) (pc3 := 144) K d1_141 (by decide) (by decide) rfl (fun q => absurd q (by decide)) (fun _ => ?_)
    refine oW.aload (pc' := 146) K d1_144 rfl rfl rfl ?_
    refine oW.iload (pc' := 148) K d1_146 rfl rfl ?_
    refine oW.iconst (v := (2 : Int32)) (pc' := 149) K d1_148 (by decide) rfl ?_
    refine oW.isub (v := (0 : Int32)) (pc' := 150) K d1_149 (by decide) rfl ?_
    refine oW.daload (i := 5) (k := 0) (pc' := 151) K d1_150 rfl rfl (by decide) rfl rfl ?_
    refine oW.aload (pc' := 153) K d1_151 rfl rfl rfl ?_
    refine oW.iload (pc' := 155) K d1_153 rfl rfl ?_
    refine oW.iconst (v := (2 : Int32)) (pc' := 156) K d1_155 (by decide) rfl ?_
    refine oW.isub (v := (0 : Int32)) (pc' := 157) K d1_156 (by decide) rfl ?_
    refine oW.daload (i := 4) (k := 0) (pc' := 158) K d1_157 rfl rfl (by decide) rfl rfl ?_
    obtain ⟨v158_1, ev158_1⟩ : ∃ t_ : UInt64, t_ = FP.ddiv v210 v193 := ⟨_, rfl⟩
    refine oW.ddiv (pc' := 159) K d1_158 ev158_1 (qv210.divnn qv193 ev158_1 (by omega) (by decide) (by decide)) rfl ?_
    refine oW.aload (pc' := 161) K d1_159 rfl rfl rfl ?_
    refine oW.iload (pc' := 163) K d1_161 rfl rfl ?_
    refine oW.iconst (v := (1 : Int32)) (pc' := 164) K d1_163 (by decide) rfl ?_
    refine oW.isub (v := (1 : Int32)) (pc' := 165) K d1_164 (by decide) rfl ?_
    refine oW.daload (i := 5) (k := 1) (pc' := 166) K d1_165 rfl rfl (by decide) rfl rfl ?_
    refine oW.aload (pc' := 168) K d1_166 rfl rfl rfl ?_
    refine oW.iload (pc' := 170) K d1_168 rfl rfl ?_
    refine oW.iconst (v := (1 : Int32)) (pc' := 171) K d1_170 (by decide) rfl ?_
    refine oW.isub (v := (1 : Int32)) (pc' := 172) K d1_171 (by decide) rfl ?_
    refine oW.daload (i := 4) (k := 1) (pc' := 173) K d1_172 rfl rfl (by decide) rfl rfl ?_
    obtain ⟨v173_1, ev173_1⟩ : ∃ t_ : UInt64, t_ = FP.ddiv v133_2 p2 := ⟨_, rfl⟩
    have qv173_1 : oQ (R2) 3 v173_1 := qv133_2.divx hp2 ev173_1 _ 3 (by omega) (by decide) (by decide) (by decide) (by omega) oD83
    refine oW.ddiv (pc' := 174) K d1_173 ev173_1 (qv173_1.nn) rfl ?_
    obtain ⟨v174_1, ev174_1⟩ : ∃ t_ : Int32, t_ = cmpValue (FP.dcmp v158_1 v173_1) .l := ⟨_, rfl⟩
    refine oW.dcmp (pc' := 175) K d1_174 ev174_1 rfl ?_
    refine oW.if_le (pc' := 218) (pc3 := 178) K d1_175 (by decide) (by decide) rfl (fun c175_1 => ?_) (fun c175_1 => ?_)
    · rw [(qv210.quoL qv193 ev158_1 qv173_1 (by omega) (by omega) ev174_1).2.2] at c175_1
      refine oW.iinc (v := (3 : Int32)) (Ls' := #[.val (.ref a), .val (.ref b), .val (.int (4 : Int32)), .val (.ref a4), .val (.double v69_3), .second, .val (.ref a79), .val (.ref a84), .val (.ref a89), .val (.int (2 : Int32)), .val (.int (3 : Int32)), .unset, .unset, .unset, .unset]) (pc' := 221) K d1_218 rfl (by decide) rfl rfl ?_
      refine oW.goto (pc' := 99) K d1_221 (by decide) (by decide) ?_
      refine oW.iload (pc' := 101) K d1_99 rfl rfl ?_
      refine oW.iloadN (pc' := 102) K d1_101 rfl rfl ?_
      refine oW.icmp_ge (pc' := 224) (pc3 := 105) K d1_102 (by decide) (by decide) rfl (fun q => absurd q (by decide)) (fun _ => ?_)
      refine oW.aload (pc' := 107) K d1_105 rfl rfl rfl ?_
      refine oW.iload (pc' := 109) K d1_107 rfl rfl ?_
      refine oW.iload (pc' := 111) K d1_109 rfl rfl ?_
      refine oW.iastore (i := 3) (k := 2) (ds' := [(a, .inl (.double, [(.double s0), (.double s1), (.double s2), (.double s3)])), (b, .inl (.double, [(.double p0), (.double p1), (.double p2), (.double p3)])), (a4, .inl (.double, [(.double v61_2), (.double v61_1), (.double v61), (.double s3)])), (a79, .inl (.int, [(.int (0 : Int32)), (.int (2 : Int32)), (.int (3 : Int32)), (.int (0 : Int32))])), (a84, .inl (.double, [(.double v193), (.double p2), (.double (0 : UInt64)), (.double (0 : UInt64))])), (a89, .inl (.double, [(.double v210), (.double v133_2), (.double (0 : UInt64)), (.double (0 : UInt64))]))]) (pc' := 112) K d1_111 rfl rfl (by decide) (Nat.lt_of_sub_eq_succ rfl) rfl rfl ?_
      refine oW.aload (pc' := 114) K d1_112 rfl rfl rfl ?_
      refine oW.iload (pc' := 116) K d1_114 rfl rfl ?_
      refine oW.aloadN (pc' := 117) K d1_116 rfl rfl rfl ?_
      refine oW.iload (pc' := 119) K d1_117 rfl rfl ?_
      refine oW.daload (i := 1) (k := 3) (pc' := 120) K d1_119 rfl rfl (by decide) rfl rfl ?_
      refine oW.dastore (i := 4) (k := 2) (ds' := [(a, .inl (.double, [(.double s0), (.double s1), (.double s2), (.double s3)])), (b, .inl (.double, [(.double p0), (.double p1), (.double p2), (.double p3)])), (a4, .inl (.double, [(.double v61_2), (.double v61_1), (.double v61), (.double s3)])), (a79, .inl (.int, [(.int (0 : Int32)), (.int (2 : Int32)), (.int (3 : Int32)), (.int (0 : Int32))])), (a84, .inl (.double, [(.double v193), (.double p2), (.double p3), (.double (0 : UInt64))])), (a89, .inl (.double, [(.double v210), (.double v133_2), (.double (0 : UInt64)), (.double (0 : UInt64))]))]) (pc' := 121) K d1_120 rfl rfl (by decide) (Nat.lt_of_sub_eq_succ rfl) rfl rfl ?_
      refine oW.aload (pc' := 123) K d1_121 rfl rfl rfl ?_
      refine oW.iload (pc' := 125) K d1_123 rfl rfl ?_
      refine oW.aloadN (pc' := 126) K d1_125 rfl rfl rfl ?_
      refine oW.iload (pc' := 128) K d1_126 rfl rfl ?_
      refine oW.daload (i := 1) (k := 3) (pc' := 129) K d1_128 rfl rfl (by decide) rfl rfl ?_
      refine oW.aloadN (pc' := 130) K d1_129 rfl rfl rfl ?_
      refine oW.iload (pc' := 132) K d1_130 rfl rfl ?_
      refine oW.daload (i := 2) (k := 3) (pc' := 133) K d1_132 rfl rfl (by decide) rfl rfl ?_
      obtain ⟨v133_3, ev133_3⟩ : ∃ t_ : UInt64, t_ = FP.dmul p3 s3 := ⟨_, rfl⟩
      have qv133_3 : oQ (q3 * R3) 8 v133_3 := (hp3.mul (hs3.up 3 rfl (by decide) hR3) ev133_3 (by decide) (by omega)).cast rfl rfl
      refine oW.dmul (pc' := 134) K d1_133 ev133_3 (qv133_3.nn) rfl ?_
      refine oW.dastore (i := 5) (k := 2) (ds' := [(a, .inl (.double, [(.double s0), (.double s1), (.double s2), (.double s3)])), (b, .inl (.double, [(.double p0), (.double p1), (.double p2), (.double p3)])), (a4, .inl (.double, [(.double v61_2), (.double v61_1), (.double v61), (.double s3)])), (a79, .inl (.int, [(.int (0 : Int32)), (.int (2 : Int32)), (.int (3 : Int32)), (.int (0 : Int32))])), (a84, .inl (.double, [(.double v193), (.double p2), (.double p3), (.double (0 : UInt64))])), (a89, .inl (.double, [(.double v210), (.double v133_2), (.double v133_3), (.double (0 : UInt64))]))]) (pc' := 135) K d1_134 rfl rfl (by decide) (Nat.lt_of_sub_eq_succ rfl) rfl rfl ?_
      refine oW.iinc (v := (3 : Int32)) (Ls' := #[.val (.ref a), .val (.ref b), .val (.int (4 : Int32)), .val (.ref a4), .val (.double v69_3), .second, .val (.ref a79), .val (.ref a84), .val (.ref a89), .val (.int (3 : Int32)), .val (.int (3 : Int32)), .unset, .unset, .unset, .unset]) (pc' := 138) K d1_135 rfl (by decide) rfl rfl ?_
      refine oW.iload (pc' := 140) K d1_138 rfl rfl ?_
      refine oW.iconst (v := (1 : Int32)) (pc' := 141) K d1_140 (by decide) rfl ?_
      refine oW.icmp_le (pc' := 218) (pc3 := 144) K d1_141 (by decide) (by decide) rfl (fun q => absurd q (by decide)) (fun _ => ?_)
      refine oW.aload (pc' := 146) K d1_144 rfl rfl rfl ?_
      refine oW.iload (pc' := 148) K d1_146 rfl rfl ?_
      refine oW.iconst (v := (2 : Int32)) (pc' := 149) K d1_148 (by decide) rfl ?_
      refine oW.isub (v := (1 : Int32)) (pc' := 150) K d1_149 (by decide) rfl ?_
      refine oW.daload (i := 5) (k := 1) (pc' := 151) K d1_150 rfl rfl (by decide) rfl rfl ?_
      refine oW.aload (pc' := 153) K d1_151 rfl rfl rfl ?_
      refine oW.iload (pc' := 155) K d1_153 rfl rfl ?_
      refine oW.iconst (v := (2 : Int32)) (pc' := 156) K d1_155 (by decide) rfl ?_
      refine oW.isub (v := (1 : Int32)) (pc' := 157) K d1_156 (by decide) rfl ?_
      refine oW.daload (i := 4) (k := 1) (pc' := 158) K d1_157 rfl rfl (by decide) rfl rfl ?_
      obtain ⟨v158_2, ev158_2⟩ : ∃ t_ : UInt64, t_ = FP.ddiv v133_2 p2 := ⟨_, rfl⟩
      have qv158_2 : oQ (R2) 3 v158_2 := qv133_2.divx hp2 ev158_2 _ 3 (by omega) (by decide) (by decide) (by decide) (by omega) oD83
      refine oW.ddiv (pc' := 159) K d1_158 ev158_2 (qv158_2.nn) rfl ?_
      refine oW.aload (pc' := 161) K d1_159 rfl rfl rfl ?_
      refine oW.iload (pc' := 163) K d1_161 rfl rfl ?_
      refine oW.iconst (v := (1 : Int32)) (pc' := 164) K d1_163 (by decide) rfl ?_
      refine oW.isub (v := (2 : Int32)) (pc' := 165) K d1_164 (by decide) rfl ?_
      refine oW.daload (i := 5) (k := 2) (pc' := 166) K d1_165 rfl rfl (by decide) rfl rfl ?_
      refine oW.aload (pc' := 168) K d1_166 rfl rfl rfl ?_
      refine oW.iload (pc' := 170) K d1_168 rfl rfl ?_
      refine oW.iconst (v := (1 : Int32)) (pc' := 171) K d1_170 (by decide) rfl ?_
      refine oW.isub (v := (2 : Int32)) (pc' := 172) K d1_171 (by decide) rfl ?_
      refine oW.daload (i := 4) (k := 2) (pc' := 173) K d1_172 rfl rfl (by decide) rfl rfl ?_
      obtain ⟨v173_2, ev173_2⟩ : ∃ t_ : UInt64, t_ = FP.ddiv v133_3 p3 := ⟨_, rfl⟩
      have qv173_2 : oQ (R3) 3 v173_2 := qv133_3.divx hp3 ev173_2 _ 3 (by omega) (by decide) (by decide) (by decide) (by omega) oD83
      refine oW.ddiv (pc' := 174) K d1_173 ev173_2 (qv173_2.nn) rfl ?_
      obtain ⟨v174_2, ev174_2⟩ : ∃ t_ : Int32, t_ = cmpValue (FP.dcmp v158_2 v173_2) .l := ⟨_, rfl⟩
      refine oW.dcmp (pc' := 175) K d1_174 ev174_2 rfl ?_
      refine oW.if_le (pc' := 218) (pc3 := 178) K d1_175 (by decide) (by decide) rfl (fun c175_2 => ?_) (fun q => absurd ((qv158_2.cmp qv173_2 ev174_2).2.2.mp q) (by omega))
      refine oW.iinc (v := (4 : Int32)) (Ls' := #[.val (.ref a), .val (.ref b), .val (.int (4 : Int32)), .val (.ref a4), .val (.double v69_3), .second, .val (.ref a79), .val (.ref a84), .val (.ref a89), .val (.int (3 : Int32)), .val (.int (4 : Int32)), .unset, .unset, .unset, .unset]) (pc' := 221) K d1_218 rfl (by decide) rfl rfl ?_
      refine oW.goto (pc' := 99) K d1_221 (by decide) (by decide) ?_
      refine oW.iload (pc' := 101) K d1_99 rfl rfl ?_
      refine oW.iloadN (pc' := 102) K d1_101 rfl rfl ?_
      refine oW.icmp_ge (pc' := 224) (pc3 := 105) K d1_102 (by decide) (by decide) rfl (fun _ => ?_) (fun q => absurd q (by decide))
      refine oW.iloadN (pc' := 225) K d1_224 rfl rfl ?_
      refine oW.newarr (n := 4) (cells' := 5) (slots' := 20) (dsf := fun z => [(a, .inl (.double, [(.double s0), (.double s1), (.double s2), (.double s3)])), (b, .inl (.double, [(.double p0), (.double p1), (.double p2), (.double p3)])), (a4, .inl (.double, [(.double v61_2), (.double v61_1), (.double v61), (.double s3)])), (a79, .inl (.int, [(.int (0 : Int32)), (.int (2 : Int32)), (.int (3 : Int32)), (.int (0 : Int32))])), (a84, .inl (.double, [(.double v193), (.double p2), (.double p3), (.double (0 : UInt64))])), (a89, .inl (.double, [(.double v210), (.double v133_2), (.double v133_3), (.double (0 : UInt64))])), (z, .inl (.double, [(.double (0 : UInt64)), (.double (0 : UInt64)), (.double (0 : UInt64)), (.double (0 : UInt64))]))]) (pc' := 227) K (hw _ (List.mem_of_getElem? (i := 2) rfl)) d1_225 rfl (by decide) (by decide) (by decide) (by decide) rfl rfl (fun _ => rfl) rfl ?_
      intro a225 ha225
      refine oW.astore (Ls' := #[.val (.ref a), .val (.ref b), .val (.int (4 : Int32)), .val (.ref a4), .val (.double v69_3), .second, .val (.ref a79), .val (.ref a84), .val (.ref a89), .val (.int (3 : Int32)), .val (.ref a225), .unset, .unset, .unset, .unset]) (pc' := 229) K d1_227 rfl rfl rfl ?_
      refine oW.iconst (v := (0 : Int32)) (pc' := 230) K d1_229 (by decide) rfl ?_
      refine oW.istore (Ls' := #[.val (.ref a), .val (.ref b), .val (.int (4 : Int32)), .val (.ref a4), .val (.double v69_3), .second, .val (.ref a79), .val (.ref a84), .val (.ref a89), .val (.int (3 : Int32)), .val (.ref a225), .val (.int (0 : Int32)), .unset, .unset, .unset]) (pc' := 232) K d1_230 rfl rfl ?_
      refine oW.iload (pc' := 234) K d1_232 rfl rfl ?_
      refine oW.iload (pc' := 236) K d1_234 rfl rfl ?_
      refine oW.icmp_ge (pc' := 316) (pc3 := 239) K d1_236 (by decide) (by decide) rfl (fun q => absurd q (by decide)) (fun _ => ?_)
      refine oW.iload (pc' := 241) K d1_239 rfl rfl ?_
      refine oW.iconst (v := (1 : Int32)) (pc' := 242) K d1_241 (by decide) rfl ?_
      refine oW.iadd (v := (1 : Int32)) (pc' := 243) K d1_242 (by decide) rfl ?_
      refine oW.iload (pc' := 245) K d1_243 rfl rfl ?_
      refine oW.icmp_ge (pc' := 258) (pc3 := 248) K d1_245 (by decide) (by decide) rfl (fun q => absurd q (by decide)) (fun _ => ?_)
      refine oW.aload (pc' := 250) K d1_248 rfl rfl rfl ?_
      refine oW.iload (pc' := 252) K d1_250 rfl rfl ?_
      refine oW.iconst (v := (1 : Int32)) (pc' := 253) K d1_252 (by decide) rfl ?_
      refine oW.iadd (v := (1 : Int32)) (pc' := 254) K d1_253 (by decide) rfl ?_
      refine oW.iaload (i := 3) (k := 1) (pc' := 255) K d1_254 rfl rfl (by decide) rfl rfl ?_
      refine oW.goto (pc' := 259) K d1_255 (by decide) (by decide) ?_
      refine oW.istore (Ls' := #[.val (.ref a), .val (.ref b), .val (.int (4 : Int32)), .val (.ref a4), .val (.double v69_3), .second, .val (.ref a79), .val (.ref a84), .val (.ref a89), .val (.int (3 : Int32)), .val (.ref a225), .val (.int (0 : Int32)), .val (.int (2 : Int32)), .unset, .unset]) (pc' := 261) K d1_259 rfl rfl ?_
      refine oW.iload (pc' := 263) K d1_261 rfl rfl ?_
      refine oW.aload (pc' := 265) K d1_263 rfl rfl rfl ?_
      refine oW.iload (pc' := 267) K d1_265 rfl rfl ?_
      refine oW.iaload (i := 3) (k := 0) (pc' := 268) K d1_267 rfl rfl (by decide) rfl rfl ?_
      refine oW.isub (v := (2 : Int32)) (pc' := 269) K d1_268 (by decide) rfl ?_
      refine oW.iconst (v := (1 : Int32)) (pc' := 270) K d1_269 (by decide) rfl ?_
      refine oW.icmp_ne (pc' := 283) (pc3 := 273) K d1_270 (by decide) (by decide) rfl (fun _ => ?_) (fun q => absurd q (by decide))
      refine oW.aload (pc' := 285) K d1_283 rfl rfl rfl ?_
      refine oW.iload (pc' := 287) K d1_285 rfl rfl ?_
      refine oW.daload (i := 5) (k := 0) (pc' := 288) K d1_287 rfl rfl (by decide) rfl rfl ?_
      refine oW.aload (pc' := 290) K d1_288 rfl rfl rfl ?_
      refine oW.iload (pc' := 292) K d1_290 rfl rfl ?_
      refine oW.daload (i := 4) (k := 0) (pc' := 293) K d1_292 rfl rfl (by decide) rfl rfl ?_
      obtain ⟨v293, ev293⟩ : ∃ t_ : UInt64, t_ = FP.ddiv v210 v193 := ⟨_, rfl⟩
      refine oW.ddiv (pc' := 294) K d1_293 ev293 (qv210.divnn qv193 ev293 (by omega) (by decide) (by decide)) rfl ?_
      refine oW.dstore (Ls' := #[.val (.ref a), .val (.ref b), .val (.int (4 : Int32)), .val (.ref a4), .val (.double v69_3), .second, .val (.ref a79), .val (.ref a84), .val (.ref a89), .val (.int (3 : Int32)), .val (.ref a225), .val (.int (0 : Int32)), .val (.int (2 : Int32)), .val (.double v293), .second]) (pc' := 296) K d1_294 rfl rfl ?_
      refine oW.aload (pc' := 298) K d1_296 rfl rfl rfl ?_
      refine oW.aload (pc' := 300) K d1_298 rfl rfl rfl ?_
      refine oW.iload (pc' := 302) K d1_300 rfl rfl ?_
      refine oW.iaload (i := 3) (k := 0) (pc' := 303) K d1_302 rfl rfl (by decide) rfl rfl ?_
      refine oW.iload (pc' := 305) K d1_303 rfl rfl ?_
      refine oW.dload (pc' := 307) K d1_305 rfl rfl ?_
      refine oW.callS0 (argsL := [(.ref a225), (.int (0 : Int32)), (.int (2 : Int32)), (.double v293)]) (S := []) (rm := ({ frames := 1, cells := 0, slots := 0, locals := 30 } : Room)) (W := 0) (cells' := 5) (slots' := 20) (pc' := 310) K (hw _ (List.mem_of_getElem? (i := 9) rfl)) (hw _ (List.mem_of_getElem? (i := 10) rfl)) (hw _ (List.mem_of_getElem? (i := 11) rfl)) (hw _ (List.mem_of_getElem? (i := 12) rfl)) (by decide) (own_fill_4_0_2 hw) (lenOf pd_1 rfl) d1_307 rfl rfl (Nat.le_of_eq rfl) (by decide) (by decide) (by decide) (by decide) rfl rfl rfl ?_
      rintro _ rfl
      refine oW.iinc (v := (1 : Int32)) (Ls' := #[.val (.ref a), .val (.ref b), .val (.int (4 : Int32)), .val (.ref a4), .val (.double v69_3), .second, .val (.ref a79), .val (.ref a84), .val (.ref a89), .val (.int (3 : Int32)), .val (.ref a225), .val (.int (1 : Int32)), .val (.int (2 : Int32)), .val (.double v293), .second]) (pc' := 313) K d1_310 rfl (by decide) rfl rfl ?_
      refine oW.goto (pc' := 232) K d1_313 (by decide) (by decide) ?_
      refine oW.iload (pc' := 234) K d1_232 rfl rfl ?_
      refine oW.iload (pc' := 236) K d1_234 rfl rfl ?_
      refine oW.icmp_ge (pc' := 316) (pc3 := 239) K d1_236 (by decide) (by decide) rfl (fun q => absurd q (by decide)) (fun _ => ?_)
      refine oW.iload (pc' := 241) K d1_239 rfl rfl ?_
      refine oW.iconst (v := (1 : Int32)) (pc' := 242) K d1_241 (by decide) rfl ?_
      refine oW.iadd (v := (2 : Int32)) (pc' := 243) K d1_242 (by decide) rfl ?_
      refine oW.iload (pc' := 245) K d1_243 rfl rfl ?_
      refine oW.icmp_ge (pc' := 258) (pc3 := 248) K d1_245 (by decide) (by decide) rfl (fun q => absurd q (by decide)) (fun _ => ?_)
      refine oW.aload (pc' := 250) K d1_248 rfl rfl rfl ?_
      refine oW.iload (pc' := 252) K d1_250 rfl rfl ?_
      refine oW.iconst (v := (1 : Int32)) (pc' := 253) K d1_252 (by decide) rfl ?_
      refine oW.iadd (v := (2 : Int32)) (pc' := 254) K d1_253 (by decide) rfl ?_
      refine oW.iaload (i := 3) (k := 2) (pc' := 255) K d1_254 rfl rfl (by decide) rfl rfl ?_
      refine oW.goto (pc' := 259) K d1_255 (by decide) (by decide) ?_
      refine oW.istore (Ls' := #[.val (.ref a), .val (.ref b), .val (.int (4 : Int32)), .val (.ref a4), .val (.double v69_3), .second, .val (.ref a79), .val (.ref a84), .val (.ref a89), .val (.int (3 : Int32)), .val (.ref a225), .val (.int (1 : Int32)), .val (.int (3 : Int32)), .val (.double v293), .second]) (pc' := 261) K d1_259 rfl rfl ?_
      refine oW.iload (pc' := 263) K d1_261 rfl rfl ?_
      refine oW.aload (pc' := 265) K d1_263 rfl rfl rfl ?_
      refine oW.iload (pc' := 267) K d1_265 rfl rfl ?_
      refine oW.iaload (i := 3) (k := 1) (pc' := 268) K d1_267 rfl rfl (by decide) rfl rfl ?_
      refine oW.isub (v := (1 : Int32)) (pc' := 269) K d1_268 (by decide) rfl ?_
      refine oW.iconst (v := (1 : Int32)) (pc' := 270) K d1_269 (by decide) rfl ?_
      refine oW.icmp_ne (pc' := 283) (pc3 := 273) K d1_270 (by decide) (by decide) rfl (fun q => absurd q (by decide)) (fun _ => ?_)
      refine oW.aloadN (pc' := 274) K d1_273 rfl rfl rfl ?_
      refine oW.aload (pc' := 276) K d1_274 rfl rfl rfl ?_
      refine oW.iload (pc' := 278) K d1_276 rfl rfl ?_
      refine oW.iaload (i := 3) (k := 1) (pc' := 279) K d1_278 rfl rfl (by decide) rfl rfl ?_
      refine oW.daload (i := 2) (k := 2) (pc' := 280) K d1_279 rfl rfl (by decide) rfl rfl ?_
      refine oW.goto (pc' := 294) K d1_280 (by decide) (by decide) ?_
      refine oW.dstore (Ls' := #[.val (.ref a), .val (.ref b), .val (.int (4 : Int32)), .val (.ref a4), .val (.double v69_3), .second, .val (.ref a79), .val (.ref a84), .val (.ref a89), .val (.int (3 : Int32)), .val (.ref a225), .val (.int (1 : Int32)), .val (.int (3 : Int32)), .val (.double v61), .second]) (pc' := 296) K d1_294 rfl rfl ?_
      refine oW.aload (pc' := 298) K d1_296 rfl rfl rfl ?_
      refine oW.aload (pc' := 300) K d1_298 rfl rfl rfl ?_
      refine oW.iload (pc' := 302) K d1_300 rfl rfl ?_
      refine oW.iaload (i := 3) (k := 1) (pc' := 303) K d1_302 rfl rfl (by decide) rfl rfl ?_
      refine oW.iload (pc' := 305) K d1_303 rfl rfl ?_
      refine oW.dload (pc' := 307) K d1_305 rfl rfl ?_
      refine oW.callS0 (argsL := [(.ref a225), (.int (2 : Int32)), (.int (3 : Int32)), (.double v61)]) (S := []) (rm := ({ frames := 1, cells := 0, slots := 0, locals := 30 } : Room)) (W := 0) (cells' := 5) (slots' := 20) (pc' := 310) K (hw _ (List.mem_of_getElem? (i := 9) rfl)) (hw _ (List.mem_of_getElem? (i := 10) rfl)) (hw _ (List.mem_of_getElem? (i := 11) rfl)) (hw _ (List.mem_of_getElem? (i := 12) rfl)) (by decide) (own_fill_4_2_3 hw) (lenOf pd_1 rfl) d1_307 rfl rfl (Nat.le_of_eq rfl) (by decide) (by decide) (by decide) (by decide) rfl rfl rfl ?_
      rintro _ rfl
      refine oW.iinc (v := (2 : Int32)) (Ls' := #[.val (.ref a), .val (.ref b), .val (.int (4 : Int32)), .val (.ref a4), .val (.double v69_3), .second, .val (.ref a79), .val (.ref a84), .val (.ref a89), .val (.int (3 : Int32)), .val (.ref a225), .val (.int (2 : Int32)), .val (.int (3 : Int32)), .val (.double v61), .second]) (pc' := 313) K d1_310 rfl (by decide) rfl rfl ?_
      refine oW.goto (pc' := 232) K d1_313 (by decide) (by decide) ?_
      refine oW.iload (pc' := 234) K d1_232 rfl rfl ?_
      refine oW.iload (pc' := 236) K d1_234 rfl rfl ?_
      refine oW.icmp_ge (pc' := 316) (pc3 := 239) K d1_236 (by decide) (by decide) rfl (fun q => absurd q (by decide)) (fun _ => ?_)
      refine oW.iload (pc' := 241) K d1_239 rfl rfl ?_
      refine oW.iconst (v := (1 : Int32)) (pc' := 242) K d1_241 (by decide) rfl ?_
      refine oW.iadd (v := (3 : Int32)) (pc' := 243) K d1_242 (by decide) rfl ?_
      refine oW.iload (pc' := 245) K d1_243 rfl rfl ?_
      refine oW.icmp_ge (pc' := 258) (pc3 := 248) K d1_245 (by decide) (by decide) rfl (fun _ => ?_) (fun q => absurd q (by decide))
      refine oW.iloadN (pc' := 259) K d1_258 rfl rfl ?_
      refine oW.istore (Ls' := #[.val (.ref a), .val (.ref b), .val (.int (4 : Int32)), .val (.ref a4), .val (.double v69_3), .second, .val (.ref a79), .val (.ref a84), .val (.ref a89), .val (.int (3 : Int32)), .val (.ref a225), .val (.int (2 : Int32)), .val (.int (4 : Int32)), .val (.double v61), .second]) (pc' := 261) K d1_259 rfl rfl ?_
      refine oW.iload (pc' := 263) K d1_261 rfl rfl ?_
      refine oW.aload (pc' := 265) K d1_263 rfl rfl rfl ?_
      refine oW.iload (pc' := 267) K d1_265 rfl rfl ?_
      refine oW.iaload (i := 3) (k := 2) (pc' := 268) K d1_267 rfl rfl (by decide) rfl rfl ?_
      refine oW.isub (v := (1 : Int32)) (pc' := 269) K d1_268 (by decide) rfl ?_
      refine oW.iconst (v := (1 : Int32)) (pc' := 270) K d1_269 (by decide) rfl ?_
      refine oW.icmp_ne (pc' := 283) (pc3 := 273) K d1_270 (by decide) (by decide) rfl (fun q => absurd q (by decide)) (fun _ => ?_)
      refine oW.aloadN (pc' := 274) K d1_273 rfl rfl rfl ?_
      refine oW.aload (pc' := 276) K d1_274 rfl rfl rfl ?_
      refine oW.iload (pc' := 278) K d1_276 rfl rfl ?_
      refine oW.iaload (i := 3) (k := 2) (pc' := 279) K d1_278 rfl rfl (by decide) rfl rfl ?_
      refine oW.daload (i := 2) (k := 3) (pc' := 280) K d1_279 rfl rfl (by decide) rfl rfl ?_
      refine oW.goto (pc' := 294) K d1_280 (by decide) (by decide) ?_
      refine oW.dstore (Ls' := #[.val (.ref a), .val (.ref b), .val (.int (4 : Int32)), .val (.ref a4), .val (.double v69_3), .second, .val (.ref a79), .val (.ref a84), .val (.ref a89), .val (.int (3 : Int32)), .val (.ref a225), .val (.int (2 : Int32)), .val (.int (4 : Int32)), .val (.double s3), .second]) (pc' := 296) K d1_294 rfl rfl ?_
      refine oW.aload (pc' := 298) K d1_296 rfl rfl rfl ?_
      refine oW.aload (pc' := 300) K d1_298 rfl rfl rfl ?_
      refine oW.iload (pc' := 302) K d1_300 rfl rfl ?_
      refine oW.iaload (i := 3) (k := 2) (pc' := 303) K d1_302 rfl rfl (by decide) rfl rfl ?_
      refine oW.iload (pc' := 305) K d1_303 rfl rfl ?_
      refine oW.dload (pc' := 307) K d1_305 rfl rfl ?_
      refine oW.callS0 (argsL := [(.ref a225), (.int (3 : Int32)), (.int (4 : Int32)), (.double s3)]) (S := []) (rm := ({ frames := 1, cells := 0, slots := 0, locals := 30 } : Room)) (W := 0) (cells' := 5) (slots' := 20) (pc' := 310) K (hw _ (List.mem_of_getElem? (i := 9) rfl)) (hw _ (List.mem_of_getElem? (i := 10) rfl)) (hw _ (List.mem_of_getElem? (i := 11) rfl)) (hw _ (List.mem_of_getElem? (i := 12) rfl)) (by decide) (own_fill_4_3_4 hw) (lenOf pd_1 rfl) d1_307 rfl rfl (Nat.le_of_eq rfl) (by decide) (by decide) (by decide) (by decide) rfl rfl rfl ?_
      rintro _ rfl
      refine oW.iinc (v := (3 : Int32)) (Ls' := #[.val (.ref a), .val (.ref b), .val (.int (4 : Int32)), .val (.ref a4), .val (.double v69_3), .second, .val (.ref a79), .val (.ref a84), .val (.ref a89), .val (.int (3 : Int32)), .val (.ref a225), .val (.int (3 : Int32)), .val (.int (4 : Int32)), .val (.double s3), .second]) (pc' := 313) K d1_310 rfl (by decide) rfl rfl ?_
      refine oW.goto (pc' := 232) K d1_313 (by decide) (by decide) ?_
      refine oW.iload (pc' := 234) K d1_232 rfl rfl ?_
      refine oW.iload (pc' := 236) K d1_234 rfl rfl ?_
      refine oW.icmp_ge (pc' := 316) (pc3 := 239) K d1_236 (by decide) (by decide) rfl (fun _ => ?_) (fun q => absurd q (by decide))
      refine oW.aload (pc' := 318) K d1_316 rfl rfl rfl ?_
      exact oW.retA K rfl rfl rfl d1_318 (by decide) (by decide) ⟨_, rfl, _, _, _, _, _, _, _, _, _, _, _, _, _, rfl, rfl, ⟨Or.inr (Or.inr (Or.inr (Or.inl ⟨by omega, by omega, ⟨_, _, ev293, qv210, qv193⟩, rfl, qv61⟩))), (hs3.up 3 rfl (by decide) hR3)⟩⟩
    · rw [(qv210.quoL qv193 ev158_1 qv173_1 (by omega) (by omega) ev174_1).2.2] at c175_1
      refine oW.aload (pc' := 180) K d1_178 rfl rfl rfl ?_
      refine oW.iload (pc' := 182) K d1_180 rfl rfl ?_
      refine oW.iconst (v := (2 : Int32)) (pc' := 183) K d1_182 (by decide) rfl ?_
      refine oW.isub (v := (0 : Int32)) (pc' := 184) K d1_183 (by decide) rfl ?_
      refine oW.dup2 (pc' := 185) K d1_184 rfl rfl rfl ?_
      refine oW.daload (i := 4) (k := 0) (pc' := 186) K d1_185 rfl rfl (by decide) rfl rfl ?_
      refine oW.aload (pc' := 188) K d1_186 rfl rfl rfl ?_
      refine oW.iload (pc' := 190) K d1_188 rfl rfl ?_
      refine oW.iconst (v := (1 : Int32)) (pc' := 191) K d1_190 (by decide) rfl ?_
      refine oW.isub (v := (1 : Int32)) (pc' := 192) K d1_191 (by decide) rfl ?_
      refine oW.daload (i := 4) (k := 1) (pc' := 193) K d1_192 rfl rfl (by decide) rfl rfl ?_
      obtain ⟨v193_1, ev193_1⟩ : ∃ t_ : UInt64, t_ = FP.dadd v193 p2 := ⟨_, rfl⟩
      have qv193_1 : oQ (q0 + q1 + q2) 5 v193_1 := (qv193.add hp2 ev193_1 (by decide) (by omega)).cast rfl (by omega)
      refine oW.dadd (pc' := 194) K d1_193 ev193_1 (qv193_1.nn) rfl ?_
      refine oW.dastore (i := 4) (k := 0) (ds' := [(a, .inl (.double, [(.double s0), (.double s1), (.double s2), (.double s3)])), (b, .inl (.double, [(.double p0), (.double p1), (.double p2), (.double p3)])), (a4, .inl (.double, [(.double v61_2), (.double v61_1), (.double v61), (.double s3)])), (a79, .inl (.int, [(.int (0 : Int32)), (.int (2 : Int32)), (.int (0 : Int32)), (.int (0 : Int32))])), (a84, .inl (.double, [(.double v193_1), (.double p2), (.double (0 : UInt64)), (.double (0 : UInt64))])), (a89, .inl (.double, [(.double v210), (.double v133_2), (.double (0 : UInt64)), (.double (0 : UInt64))]))]) (pc' := 195) K d1_194 rfl rfl (by decide) (Nat.lt_of_sub_eq_succ rfl) rfl rfl ?_
      refine oW.aload (pc' := 197) K d1_195 rfl rfl rfl ?_
      refine oW.iload (pc' := 199) K d1_197 rfl rfl ?_
      refine oW.iconst (v := (2 : Int32)) (pc' := 200) K d1_199 (by decide) rfl ?_
      refine oW.isub (v := (0 : Int32)) (pc' := 201) K d1_200 (by decide) rfl ?_
      refine oW.dup2 (pc' := 202) K d1_201 rfl rfl rfl ?_
      refine oW.daload (i := 5) (k := 0) (pc' := 203) K d1_202 rfl rfl (by decide) rfl rfl ?_
      refine oW.aload (pc' := 205) K d1_203 rfl rfl rfl ?_
      refine oW.iload (pc' := 207) K d1_205 rfl rfl ?_
      refine oW.iconst (v := (1 : Int32)) (pc' := 208) K d1_207 (by decide) rfl ?_
      refine oW.isub (v := (1 : Int32)) (pc' := 209) K d1_208 (by decide) rfl ?_
      refine oW.daload (i := 5) (k := 1) (pc' := 210) K d1_209 rfl rfl (by decide) rfl rfl ?_
      obtain ⟨v210_1, ev210_1⟩ : ∃ t_ : UInt64, t_ = FP.dadd v210 v133_2 := ⟨_, rfl⟩
      have qv210_1 : oQ (q0 * R0 + q1 * R1 + q2 * R2) 8 v210_1 := (qv210.add qv133_2 ev210_1 (by decide) (by omega)).cast rfl (by omega)
      refine oW.dadd (pc' := 211) K d1_210 ev210_1 (qv210_1.nn) rfl ?_
      refine oW.dastore (i := 5) (k := 0) (ds' := [(a, .inl (.double, [(.double s0), (.double s1), (.double s2), (.double s3)])), (b, .inl (.double, [(.double p0), (.double p1), (.double p2), (.double p3)])), (a4, .inl (.double, [(.double v61_2), (.double v61_1), (.double v61), (.double s3)])), (a79, .inl (.int, [(.int (0 : Int32)), (.int (2 : Int32)), (.int (0 : Int32)), (.int (0 : Int32))])), (a84, .inl (.double, [(.double v193_1), (.double p2), (.double (0 : UInt64)), (.double (0 : UInt64))])), (a89, .inl (.double, [(.double v210_1), (.double v133_2), (.double (0 : UInt64)), (.double (0 : UInt64))]))]) (pc' := 212) K d1_211 rfl rfl (by decide) (Nat.lt_of_sub_eq_succ rfl) rfl rfl ?_
      refine oW.iinc (v := (1 : Int32)) (Ls' := #[.val (.ref a), .val (.ref b), .val (.int (4 : Int32)), .val (.ref a4), .val (.double v69_3), .second, .val (.ref a79), .val (.ref a84), .val (.ref a89), .val (.int (1 : Int32)), .val (.int (2 : Int32)), .unset, .unset, .unset, .unset]) (pc' := 215) K d1_212 rfl (by decide) rfl rfl ?_
      refine oW.goto (pc' := 138) K d1_215 (by decide) (by decide) ?_
      refine oW.iload (pc' := 140) K d1_138 rfl rfl ?_
      refine oW.iconst (v := (1 : Int32)) (pc' := 141) K d1_140 (by decide) rfl ?_
      refine oW.icmp_le (pc' := 218) (pc3 := 144) K d1_141 (by decide) (by decide) rfl (fun _ => ?_) (fun q => absurd q (by decide))
      refine oW.iinc (v := (3 : Int32)) (Ls' := #[.val (.ref a), .val (.ref b), .val (.int (4 : Int32)), .val (.ref a4), .val (.double v69_3), .second, .val (.ref a79), .val (.ref a84), .val (.ref a89), .val (.int (1 : Int32)), .val (.int (3 : Int32)), .unset, .unset, .unset, .unset]) (pc' := 221) K d1_218 rfl (by decide) rfl rfl ?_
      refine oW.goto (pc' := 99) K d1_221 (by decide) (by decide) ?_
      refine oW.iload (pc' := 101) K d1_99 rfl rfl ?_
      refine oW.iloadN (pc' := 102) K d1_101 rfl rfl ?_
      refine oW.icmp_ge (pc' := 224) (pc3 := 105) K d1_102 (by decide) (by decide) rfl (fun q => absurd q (by decide)) (fun _ => ?_)
      refine oW.aload (pc' := 107) K d1_105 rfl rfl rfl ?_
      refine oW.iload (pc' := 109) K d1_107 rfl rfl ?_
      refine oW.iload (pc' := 111) K d1_109 rfl rfl ?_
      refine oW.iastore (i := 3) (k := 1) (ds' := [(a, .inl (.double, [(.double s0), (.double s1), (.double s2), (.double s3)])), (b, .inl (.double, [(.double p0), (.double p1), (.double p2), (.double p3)])), (a4, .inl (.double, [(.double v61_2), (.double v61_1), (.double v61), (.double s3)])), (a79, .inl (.int, [(.int (0 : Int32)), (.int (3 : Int32)), (.int (0 : Int32)), (.int (0 : Int32))])), (a84, .inl (.double, [(.double v193_1), (.double p2), (.double (0 : UInt64)), (.double (0 : UInt64))])), (a89, .inl (.double, [(.double v210_1), (.double v133_2), (.double (0 : UInt64)), (.double (0 : UInt64))]))]) (pc' := 112) K d1_111 rfl rfl (by decide) (Nat.lt_of_sub_eq_succ rfl) rfl rfl ?_
      refine oW.aload (pc' := 114) K d1_112 rfl rfl rfl ?_
      refine oW.iload (pc' := 116) K d1_114 rfl rfl ?_
      refine oW.aloadN (pc' := 117) K d1_116 rfl rfl rfl ?_
      refine oW.iload (pc' := 119) K d1_117 rfl rfl ?_
      refine oW.daload (i := 1) (k := 3) (pc' := 120) K d1_119 rfl rfl (by decide) rfl rfl ?_
      refine oW.dastore (i := 4) (k := 1) (ds' := [(a, .inl (.double, [(.double s0), (.double s1), (.double s2), (.double s3)])), (b, .inl (.double, [(.double p0), (.double p1), (.double p2), (.double p3)])), (a4, .inl (.double, [(.double v61_2), (.double v61_1), (.double v61), (.double s3)])), (a79, .inl (.int, [(.int (0 : Int32)), (.int (3 : Int32)), (.int (0 : Int32)), (.int (0 : Int32))])), (a84, .inl (.double, [(.double v193_1), (.double p3), (.double (0 : UInt64)), (.double (0 : UInt64))])), (a89, .inl (.double, [(.double v210_1), (.double v133_2), (.double (0 : UInt64)), (.double (0 : UInt64))]))]) (pc' := 121) K d1_120 rfl rfl (by decide) (Nat.lt_of_sub_eq_succ rfl) rfl rfl ?_
      refine oW.aload (pc' := 123) K d1_121 rfl rfl rfl ?_
      refine oW.iload (pc' := 125) K d1_123 rfl rfl ?_
      refine oW.aloadN (pc' := 126) K d1_125 rfl rfl rfl ?_
      refine oW.iload (pc' := 128) K d1_126 rfl rfl ?_
      refine oW.daload (i := 1) (k := 3) (pc' := 129) K d1_128 rfl rfl (by decide) rfl rfl ?_
      refine oW.aloadN (pc' := 130) K d1_129 rfl rfl rfl ?_
      refine oW.iload (pc' := 132) K d1_130 rfl rfl ?_
      refine oW.daload (i := 2) (k := 3) (pc' := 133) K d1_132 rfl rfl (by decide) rfl rfl ?_
      obtain ⟨v133_3, ev133_3⟩ : ∃ t_ : UInt64, t_ = FP.dmul p3 s3 := ⟨_, rfl⟩
      have qv133_3 : oQ (q3 * R3) 8 v133_3 := (hp3.mul (hs3.up 3 rfl (by decide) hR3) ev133_3 (by decide) (by omega)).cast rfl rfl
      refine oW.dmul (pc' := 134) K d1_133 ev133_3 (qv133_3.nn) rfl ?_
      refine oW.dastore (i := 5) (k := 1) (ds' := [(a, .inl (.double, [(.double s0), (.double s1), (.double s2), (.double s3)])), (b, .inl (.double, [(.double p0), (.double p1), (.double p2), (.double p3)])), (a4, .inl (.double, [(.double v61_2), (.double v61_1), (.double v61), (.double s3)])), (a79, .inl (.int, [(.int (0 : Int32)), (.int (3 : Int32)), (.int (0 : Int32)), (.int (0 : Int32))])), (a84, .inl (.double, [(.double v193_1), (.double p3), (.double (0 : UInt64)), (.double (0 : UInt64))])), (a89, .inl (.double, [(.double v210_1), (.double v133_3), (.double (0 : UInt64)), (.double (0 : UInt64))]))]) (pc' := 135) K d1_134 rfl rfl (by decide) (Nat.lt_of_sub_eq_succ rfl) rfl rfl ?_
      refine oW.iinc (v := (2 : Int32)) (Ls' := #[.val (.ref a), .val (.ref b), .val (.int (4 : Int32)), .val (.ref a4), .val (.double v69_3), .second, .val (.ref a79), .val (.ref a84), .val (.ref a89), .val (.int (2 : Int32)), .val (.int (3 : Int32)), .unset, .unset, .unset, .unset]) (pc' := 138) K d1_135 rfl (by decide) rfl rfl ?_
      refine oW.iload (pc' := 140) K d1_138 rfl rfl ?_
      refine oW.iconst (v := (1 : Int32)) (pc' := 141) K d1_140 (by decide) rfl ?_
      refine oW.icmp_le (pc' := 218) (pc3 := 144) K d1_141 (by decide) (by decide) rfl (fun q => absurd q (by decide)) (fun _ => ?_)
      refine oW.aload (pc' := 146) K d1_144 rfl rfl rfl ?_
      refine oW.iload (pc' := 148) K d1_146 rfl rfl ?_
      refine oW.iconst (v := (2 : Int32)) (pc' := 149) K d1_148 (by decide) rfl ?_
      refine oW.isub (v := (0 : Int32)) (pc' := 150) K d1_149 (by decide) rfl ?_
      refine oW.daload (i := 5) (k := 0) (pc' := 151) K d1_150 rfl rfl (by decide) rfl rfl ?_
      refine oW.aload (pc' := 153) K d1_151 rfl rfl rfl ?_
      refine oW.iload (pc' := 155) K d1_153 rfl rfl ?_
      refine oW.iconst (v := (2 : Int32)) (pc' := 156) K d1_155 (by decide) rfl ?_
      refine oW.isub (v := (0 : Int32)) (pc' := 157) K d1_156 (by decide) rfl ?_
      refine oW.daload (i := 4) (k := 0) (pc' := 158) K d1_157 rfl rfl (by decide) rfl rfl ?_
      obtain ⟨v158_2, ev158_2⟩ : ∃ t_ : UInt64, t_ = FP.ddiv v210_1 v193_1 := ⟨_, rfl⟩
      refine oW.ddiv (pc' := 159) K d1_158 ev158_2 (qv210_1.divnn qv193_1 ev158_2 (by omega) (by decide) (by decide)) rfl ?_
      refine oW.aload (pc' := 161) K d1_159 rfl rfl rfl ?_
      refine oW.iload (pc' := 163) K d1_161 rfl rfl ?_
      refine oW.iconst (v := (1 : Int32)) (pc' := 164) K d1_163 (by decide) rfl ?_
      refine oW.isub (v := (1 : Int32)) (pc' := 165) K d1_164 (by decide) rfl ?_
      refine oW.daload (i := 5) (k := 1) (pc' := 166) K d1_165 rfl rfl (by decide) rfl rfl ?_
      refine oW.aload (pc' := 168) K d1_166 rfl rfl rfl ?_
      refine oW.iload (pc' := 170) K d1_168 rfl rfl ?_
      refine oW.iconst (v := (1 : Int32)) (pc' := 171) K d1_170 (by decide) rfl ?_
      refine oW.isub (v := (1 : Int32)) (pc' := 172) K d1_171 (by decide) rfl ?_
      refine oW.daload (i := 4) (k := 1) (pc' := 173) K d1_172 rfl rfl (by decide) rfl rfl ?_
      obtain ⟨v173_2, ev173_2⟩ : ∃ t_ : UInt64, t_ = FP.ddiv v133_3 p3 := ⟨_, rfl⟩
      have qv173_2 : oQ (R3) 3 v173_2 := qv133_3.divx hp3 ev173_2 _ 3 (by omega) (by decide) (by decide) (by decide) (by omega) oD83
      refine oW.ddiv (pc' := 174) K d1_173 ev173_2 (qv173_2.nn) rfl ?_
      obtain ⟨v174_2, ev174_2⟩ : ∃ t_ : Int32, t_ = cmpValue (FP.dcmp v158_2 v173_2) .l := ⟨_, rfl⟩
      refine oW.dcmp (pc' := 175) K d1_174 ev174_2 rfl ?_
      refine oW.if_le (pc' := 218) (pc3 := 178) K d1_175 (by decide) (by decide) rfl (fun c175_2 => ?_) (fun q => absurd ((qv210_1.quoL qv193_1 ev158_2 qv173_2 (by omega) (by omega) ev174_2).2.2.mp q) (by have hav := oAvg3 (q0 := q0) (q1 := q1) (q2 := q2) (by omega) (by omega) (by omega) hm0 hm1 hm2; omega))
      refine oW.iinc (v := (4 : Int32)) (Ls' := #[.val (.ref a), .val (.ref b), .val (.int (4 : Int32)), .val (.ref a4), .val (.double v69_3), .second, .val (.ref a79), .val (.ref a84), .val (.ref a89), .val (.int (2 : Int32)), .val (.int (4 : Int32)), .unset, .unset, .unset, .unset]) (pc' := 221) K d1_218 rfl (by decide) rfl rfl ?_
      refine oW.goto (pc' := 99) K d1_221 (by decide) (by decide) ?_
      refine oW.iload (pc' := 101) K d1_99 rfl rfl ?_
      refine oW.iloadN (pc' := 102) K d1_101 rfl rfl ?_
      refine oW.icmp_ge (pc' := 224) (pc3 := 105) K d1_102 (by decide) (by decide) rfl (fun _ => ?_) (fun q => absurd q (by decide))
      refine oW.iloadN (pc' := 225) K d1_224 rfl rfl ?_
      refine oW.newarr (n := 4) (cells' := 5) (slots' := 20) (dsf := fun z => [(a, .inl (.double, [(.double s0), (.double s1), (.double s2), (.double s3)])), (b, .inl (.double, [(.double p0), (.double p1), (.double p2), (.double p3)])), (a4, .inl (.double, [(.double v61_2), (.double v61_1), (.double v61), (.double s3)])), (a79, .inl (.int, [(.int (0 : Int32)), (.int (3 : Int32)), (.int (0 : Int32)), (.int (0 : Int32))])), (a84, .inl (.double, [(.double v193_1), (.double p3), (.double (0 : UInt64)), (.double (0 : UInt64))])), (a89, .inl (.double, [(.double v210_1), (.double v133_3), (.double (0 : UInt64)), (.double (0 : UInt64))])), (z, .inl (.double, [(.double (0 : UInt64)), (.double (0 : UInt64)), (.double (0 : UInt64)), (.double (0 : UInt64))]))]) (pc' := 227) K (hw _ (List.mem_of_getElem? (i := 2) rfl)) d1_225 rfl (by decide) (by decide) (by decide) (by decide) rfl rfl (fun _ => rfl) rfl ?_
      intro a225 ha225
      refine oW.astore (Ls' := #[.val (.ref a), .val (.ref b), .val (.int (4 : Int32)), .val (.ref a4), .val (.double v69_3), .second, .val (.ref a79), .val (.ref a84), .val (.ref a89), .val (.int (2 : Int32)), .val (.ref a225), .unset, .unset, .unset, .unset]) (pc' := 229) K d1_227 rfl rfl rfl ?_
      refine oW.iconst (v := (0 : Int32)) (pc' := 230) K d1_229 (by decide) rfl ?_
      refine oW.istore (Ls' := #[.val (.ref a), .val (.ref b), .val (.int (4 : Int32)), .val (.ref a4), .val (.double v69_3), .second, .val (.ref a79), .val (.ref a84), .val (.ref a89), .val (.int (2 : Int32)), .val (.ref a225), .val (.int (0 : Int32)), .unset, .unset, .unset]) (pc' := 232) K d1_230 rfl rfl ?_
      refine oW.iload (pc' := 234) K d1_232 rfl rfl ?_
      refine oW.iload (pc' := 236) K d1_234 rfl rfl ?_
      refine oW.icmp_ge (pc' := 316) (pc3 := 239) K d1_236 (by decide) (by decide) rfl (fun q => absurd q (by decide)) (fun _ => ?_)
      refine oW.iload (pc' := 241) K d1_239 rfl rfl ?_
      refine oW.iconst (v := (1 : Int32)) (pc' := 242) K d1_241 (by decide) rfl ?_
      refine oW.iadd (v := (1 : Int32)) (pc' := 243) K d1_242 (by decide) rfl ?_
      refine oW.iload (pc' := 245) K d1_243 rfl rfl ?_
      refine oW.icmp_ge (pc' := 258) (pc3 := 248) K d1_245 (by decide) (by decide) rfl (fun q => absurd q (by decide)) (fun _ => ?_)
      refine oW.aload (pc' := 250) K d1_248 rfl rfl rfl ?_
      refine oW.iload (pc' := 252) K d1_250 rfl rfl ?_
      refine oW.iconst (v := (1 : Int32)) (pc' := 253) K d1_252 (by decide) rfl ?_
      refine oW.iadd (v := (1 : Int32)) (pc' := 254) K d1_253 (by decide) rfl ?_
      refine oW.iaload (i := 3) (k := 1) (pc' := 255) K d1_254 rfl rfl (by decide) rfl rfl ?_
      refine oW.goto (pc' := 259) K d1_255 (by decide) (by decide) ?_
      refine oW.istore (Ls' := #[.val (.ref a), .val (.ref b), .val (.int (4 : Int32)), .val (.ref a4), .val (.double v69_3), .second, .val (.ref a79), .val (.ref a84), .val (.ref a89), .val (.int (2 : Int32)), .val (.ref a225), .val (.int (0 : Int32)), .val (.int (3 : Int32)), .unset, .unset]) (pc' := 261) K d1_259 rfl rfl ?_
      refine oW.iload (pc' := 263) K d1_261 rfl rfl ?_
      refine oW.aload (pc' := 265) K d1_263 rfl rfl rfl ?_
      refine oW.iload (pc' := 267) K d1_265 rfl rfl ?_
      refine oW.iaload (i := 3) (k := 0) (pc' := 268) K d1_267 rfl rfl (by decide) rfl rfl ?_
      refine oW.isub (v := (3 : Int32)) (pc' := 269) K d1_268 (by decide) rfl ?_
      refine oW.iconst (v := (1 : Int32)) (pc' := 270) K d1_269 (by decide) rfl ?_
      refine oW.icmp_ne (pc' := 283) (pc3 := 273) K d1_270 (by decide) (by decide) rfl (fun _ => ?_) (fun q => absurd q (by decide))
      refine oW.aload (pc' := 285) K d1_283 rfl rfl rfl ?_
      refine oW.iload (pc' := 287) K d1_285 rfl rfl ?_
      refine oW.daload (i := 5) (k := 0) (pc' := 288) K d1_287 rfl rfl (by decide) rfl rfl ?_
      refine oW.aload (pc' := 290) K d1_288 rfl rfl rfl ?_
      refine oW.iload (pc' := 292) K d1_290 rfl rfl ?_
      refine oW.daload (i := 4) (k := 0) (pc' := 293) K d1_292 rfl rfl (by decide) rfl rfl ?_
      obtain ⟨v293, ev293⟩ : ∃ t_ : UInt64, t_ = FP.ddiv v210_1 v193_1 := ⟨_, rfl⟩
      refine oW.ddiv (pc' := 294) K d1_293 ev293 (qv210_1.divnn qv193_1 ev293 (by omega) (by decide) (by decide)) rfl ?_
      refine oW.dstore (Ls' := #[.val (.ref a), .val (.ref b), .val (.int (4 : Int32)), .val (.ref a4), .val (.double v69_3), .second, .val (.ref a79), .val (.ref a84), .val (.ref a89), .val (.int (2 : Int32)), .val (.ref a225), .val (.int (0 : Int32)), .val (.int (3 : Int32)), .val (.double v293), .second]) (pc' := 296) K d1_294 rfl rfl ?_
      refine oW.aload (pc' := 298) K d1_296 rfl rfl rfl ?_
      refine oW.aload (pc' := 300) K d1_298 rfl rfl rfl ?_
      refine oW.iload (pc' := 302) K d1_300 rfl rfl ?_
      refine oW.iaload (i := 3) (k := 0) (pc' := 303) K d1_302 rfl rfl (by decide) rfl rfl ?_
      refine oW.iload (pc' := 305) K d1_303 rfl rfl ?_
      refine oW.dload (pc' := 307) K d1_305 rfl rfl ?_
      refine oW.callS0 (argsL := [(.ref a225), (.int (0 : Int32)), (.int (3 : Int32)), (.double v293)]) (S := []) (rm := ({ frames := 1, cells := 0, slots := 0, locals := 30 } : Room)) (W := 0) (cells' := 5) (slots' := 20) (pc' := 310) K (hw _ (List.mem_of_getElem? (i := 9) rfl)) (hw _ (List.mem_of_getElem? (i := 10) rfl)) (hw _ (List.mem_of_getElem? (i := 11) rfl)) (hw _ (List.mem_of_getElem? (i := 12) rfl)) (by decide) (own_fill_4_0_3 hw) (lenOf pd_1 rfl) d1_307 rfl rfl (Nat.le_of_eq rfl) (by decide) (by decide) (by decide) (by decide) rfl rfl rfl ?_
      rintro _ rfl
      refine oW.iinc (v := (1 : Int32)) (Ls' := #[.val (.ref a), .val (.ref b), .val (.int (4 : Int32)), .val (.ref a4), .val (.double v69_3), .second, .val (.ref a79), .val (.ref a84), .val (.ref a89), .val (.int (2 : Int32)), .val (.ref a225), .val (.int (1 : Int32)), .val (.int (3 : Int32)), .val (.double v293), .second]) (pc' := 313) K d1_310 rfl (by decide) rfl rfl ?_
      refine oW.goto (pc' := 232) K d1_313 (by decide) (by decide) ?_
      refine oW.iload (pc' := 234) K d1_232 rfl rfl ?_
      refine oW.iload (pc' := 236) K d1_234 rfl rfl ?_
      refine oW.icmp_ge (pc' := 316) (pc3 := 239) K d1_236 (by decide) (by decide) rfl (fun q => absurd q (by decide)) (fun _ => ?_)
      refine oW.iload (pc' := 241) K d1_239 rfl rfl ?_
      refine oW.iconst (v := (1 : Int32)) (pc' := 242) K d1_241 (by decide) rfl ?_
      refine oW.iadd (v := (2 : Int32)) (pc' := 243) K d1_242 (by decide) rfl ?_
      refine oW.iload (pc' := 245) K d1_243 rfl rfl ?_
      refine oW.icmp_ge (pc' := 258) (pc3 := 248) K d1_245 (by decide) (by decide) rfl (fun _ => ?_) (fun q => absurd q (by decide))
      refine oW.iloadN (pc' := 259) K d1_258 rfl rfl ?_
      refine oW.istore (Ls' := #[.val (.ref a), .val (.ref b), .val (.int (4 : Int32)), .val (.ref a4), .val (.double v69_3), .second, .val (.ref a79), .val (.ref a84), .val (.ref a89), .val (.int (2 : Int32)), .val (.ref a225), .val (.int (1 : Int32)), .val (.int (4 : Int32)), .val (.double v293), .second]) (pc' := 261) K d1_259 rfl rfl ?_
      refine oW.iload (pc' := 263) K d1_261 rfl rfl ?_
      refine oW.aload (pc' := 265) K d1_263 rfl rfl rfl ?_
      refine oW.iload (pc' := 267) K d1_265 rfl rfl ?_
      refine oW.iaload (i := 3) (k := 1) (pc' := 268) K d1_267 rfl rfl (by decide) rfl rfl ?_
      refine oW.isub (v := (1 : Int32)) (pc' := 269) K d1_268 (by decide) rfl ?_
      refine oW.iconst (v := (1 : Int32)) (pc' := 270) K d1_269 (by decide) rfl ?_
      refine oW.icmp_ne (pc' := 283) (pc3 := 273) K d1_270 (by decide) (by decide) rfl (fun q => absurd q (by decide)) (fun _ => ?_)
      refine oW.aloadN (pc' := 274) K d1_273 rfl rfl rfl ?_
      refine oW.aload (pc' := 276) K d1_274 rfl rfl rfl ?_
      refine oW.iload (pc' := 278) K d1_276 rfl rfl ?_
      refine oW.iaload (i := 3) (k := 1) (pc' := 279) K d1_278 rfl rfl (by decide) rfl rfl ?_
      refine oW.daload (i := 2) (k := 3) (pc' := 280) K d1_279 rfl rfl (by decide) rfl rfl ?_
      refine oW.goto (pc' := 294) K d1_280 (by decide) (by decide) ?_
      refine oW.dstore (Ls' := #[.val (.ref a), .val (.ref b), .val (.int (4 : Int32)), .val (.ref a4), .val (.double v69_3), .second, .val (.ref a79), .val (.ref a84), .val (.ref a89), .val (.int (2 : Int32)), .val (.ref a225), .val (.int (1 : Int32)), .val (.int (4 : Int32)), .val (.double s3), .second]) (pc' := 296) K d1_294 rfl rfl ?_
      refine oW.aload (pc' := 298) K d1_296 rfl rfl rfl ?_
      refine oW.aload (pc' := 300) K d1_298 rfl rfl rfl ?_
      refine oW.iload (pc' := 302) K d1_300 rfl rfl ?_
      refine oW.iaload (i := 3) (k := 1) (pc' := 303) K d1_302 rfl rfl (by decide) rfl rfl ?_
      refine oW.iload (pc' := 305) K d1_303 rfl rfl ?_
      refine oW.dload (pc' := 307) K d1_305 rfl rfl ?_
      refine oW.callS0 (argsL := [(.ref a225), (.int (3 : Int32)), (.int (4 : Int32)), (.double s3)]) (S := []) (rm := ({ frames := 1, cells := 0, slots := 0, locals := 30 } : Room)) (W := 0) (cells' := 5) (slots' := 20) (pc' := 310) K (hw _ (List.mem_of_getElem? (i := 9) rfl)) (hw _ (List.mem_of_getElem? (i := 10) rfl)) (hw _ (List.mem_of_getElem? (i := 11) rfl)) (hw _ (List.mem_of_getElem? (i := 12) rfl)) (by decide) (own_fill_4_3_4 hw) (lenOf pd_1 rfl) d1_307 rfl rfl (Nat.le_of_eq rfl) (by decide) (by decide) (by decide) (by decide) rfl rfl rfl ?_
      rintro _ rfl
      refine oW.iinc (v := (2 : Int32)) (Ls' := #[.val (.ref a), .val (.ref b), .val (.int (4 : Int32)), .val (.ref a4), .val (.double v69_3), .second, .val (.ref a79), .val (.ref a84), .val (.ref a89), .val (.int (2 : Int32)), .val (.ref a225), .val (.int (2 : Int32)), .val (.int (4 : Int32)), .val (.double s3), .second]) (pc' := 313) K d1_310 rfl (by decide) rfl rfl ?_
      refine oW.goto (pc' := 232) K d1_313 (by decide) (by decide) ?_
      refine oW.iload (pc' := 234) K d1_232 rfl rfl ?_
      refine oW.iload (pc' := 236) K d1_234 rfl rfl ?_
      refine oW.icmp_ge (pc' := 316) (pc3 := 239) K d1_236 (by decide) (by decide) rfl (fun _ => ?_) (fun q => absurd q (by decide))
      refine oW.aload (pc' := 318) K d1_316 rfl rfl rfl ?_
      exact oW.retA K rfl rfl rfl d1_318 (by decide) (by decide) ⟨_, rfl, _, _, _, _, _, _, _, _, _, _, _, _, _, rfl, rfl, ⟨Or.inr (Or.inr ((Or.inr (Or.inr ⟨by omega, by omega, ⟨_, _, ev293, qv210_1, qv193_1⟩, rfl, rfl⟩)))), (hs3.up 3 rfl (by decide) hR3)⟩⟩
theorem d4_0 : decode method_2_code 0 = .ok (.dload_n 0, 1) := by decide +kernel
theorem d4_1 : decode method_2_code 1 = .ok (.lload_n 2, 1) := by decide +kernel
theorem d4_2 : decode method_2_code 2 = .ok (.l2d, 1) := by decide +kernel
theorem d4_3 : decode method_2_code 3 = .ok (.lload 4, 2) := by decide +kernel
theorem d4_5 : decode method_2_code 5 = .ok (.l2d, 1) := by decide +kernel
theorem d4_6 : decode method_2_code 6 = .ok (.ddiv, 1) := by decide +kernel
theorem d4_7 : decode method_2_code 7 = .ok (.dcmp .l, 1) := by decide +kernel
theorem d4_8 : decode method_2_code 8 = .ok (.ifCond .ne 7, 3) := by decide +kernel
theorem d4_11 : decode method_2_code 11 = .ok (.iconst 1, 1) := by decide +kernel
theorem d4_12 : decode method_2_code 12 = .ok (.goto 4, 3) := by decide +kernel
theorem d4_15 : decode method_2_code 15 = .ok (.iconst 0, 1) := by decide +kernel
theorem d4_16 : decode method_2_code 16 = .ok (.ireturn, 1) := by decide +kernel
set_option maxRecDepth 65536 in
set_option maxHeartbeats 40000000 in
theorem own_sameQ {l : Launch} {Z : State} {a0 : Array Value} {h0 : Heap} (hw : ∀ d ∈ tables_1, d.before a0 Z = true) {ds0 : oDs} {v : UInt64} {nu de : Int64} {r : Int} (hv : oQ r 3 v) (h1 : nu.toInt = r) (h2 : de.toInt = 8) (hb : -68719476736 ≤ r ∧ r ≤ 68719476736) :
    oCtr l Z h0 [] (⟨"com/example/arrivage/arrivage/mechanism/VirtualValuesIronedPinLaw", "same", "(DJJ)Z"⟩ : MethodName) method_2_code 6 (some .boolean) ({ frames := 0, cells := 0, slots := 0, locals := 0 } : Room) #[(.double v), (.long nu), (.long de)] ds0 (oVal fun w d => w = .int 1 ∧ d = ds0) := by
  refine oCtr.of (Ls := #[.val (.double v), .second, .val (.long nu), .second, .val (.long de), .second]) (plainFor_of_name (by first | (simp [plainName, overriddenIn]; done) | decide +kernel)) (fun m => by first | (simp [entryFrame, mkF, argsToLocals, Value.category]; done) | rfl) ?_
  intro p e s m below meth c K
  refine oW.dloadN (pc' := 1) K d4_0 rfl rfl ?_
  refine oW.lloadN (pc' := 2) K d4_1 rfl rfl ?_
  obtain ⟨v2, ev2⟩ : ∃ t_ : UInt64, t_ = FP.l2d nu := ⟨_, rfl⟩
  have qv2 := h1 ▸ oQ.int (oL2D ev2 (by omega))
  refine oW.l2d (pc' := 3) K d4_2 ev2 rfl ?_
  refine oW.lload (pc' := 5) K d4_3 rfl rfl ?_
  obtain ⟨v5, ev5⟩ : ∃ t_ : UInt64, t_ = FP.l2d de := ⟨_, rfl⟩
  have qv5 := h2 ▸ oQ.int (oL2D ev5 (by omega))
  refine oW.l2d (pc' := 6) K d4_5 ev5 rfl ?_
  obtain ⟨v6, ev6⟩ : ∃ t_ : UInt64, t_ = FP.ddiv v2 v5 := ⟨_, rfl⟩
  refine oW.ddiv (pc' := 7) K d4_6 ev6 (qv2.divnn qv5 ev6 (by omega) (by decide) (by decide)) rfl ?_
  obtain ⟨v7, ev7⟩ : ∃ t_ : Int32, t_ = cmpValue (FP.dcmp v v6) .l := ⟨_, rfl⟩
  refine oW.dcmp (pc' := 8) K d4_7 ev7 rfl ?_
  refine oW.if_ne (pc' := 15) (pc3 := 11) K d4_8 (by decide) (by decide) rfl (fun q => absurd ((hv.cmp (qv2.divx qv5 ev6 r 3 (by omega) (by decide) (by decide) (by decide) (by omega) (by show r * 1 * 8 = r * (8 * 1); omega)) ev7).2.1.mpr rfl) q) (fun c8 => ?_)
  refine oW.iconst (v := (1 : Int32)) (pc' := 12) K d4_11 (by decide) rfl ?_
  refine oW.goto (pc' := 16) K d4_12 (by decide) (by decide) ?_
  exact oW.retB K rfl d4_16 (by decide) (by decide) ⟨_, rfl, rfl, rfl⟩
set_option maxRecDepth 65536 in
set_option maxHeartbeats 40000000 in
theorem own_sameD {l : Launch} {Z : State} {a0 : Array Value} {h0 : Heap} (hw : ∀ d ∈ tables_1, d.before a0 Z = true) {ds0 : oDs} {v : UInt64} {nu de : Int64} {N W : Int} (hv : oDq N W v) (h1 : nu.toInt = N) (h2 : de.toInt = 8 * W) (hW : 1 ≤ W ∧ W ≤ 100) (hb : -9007199254740992 < N ∧ N < 9007199254740992) :
    oCtr l Z h0 [] (⟨"com/example/arrivage/arrivage/mechanism/VirtualValuesIronedPinLaw", "same", "(DJJ)Z"⟩ : MethodName) method_2_code 6 (some .boolean) ({ frames := 0, cells := 0, slots := 0, locals := 0 } : Room) #[(.double v), (.long nu), (.long de)] ds0 (oVal fun w d => w = .int 1 ∧ d = ds0) := by
  refine oCtr.of (Ls := #[.val (.double v), .second, .val (.long nu), .second, .val (.long de), .second]) (plainFor_of_name (by first | (simp [plainName, overriddenIn]; done) | decide +kernel)) (fun m => by first | (simp [entryFrame, mkF, argsToLocals, Value.category]; done) | rfl) ?_
  intro p e s m below meth c K
  obtain ⟨X, Y, eX, qX, qY⟩ := hv
  refine oW.dloadN (pc' := 1) K d4_0 rfl rfl ?_
  refine oW.lloadN (pc' := 2) K d4_1 rfl rfl ?_
  obtain ⟨v2, ev2⟩ : ∃ t_ : UInt64, t_ = FP.l2d nu := ⟨_, rfl⟩
  have qv2 := h1 ▸ oQ.int (oL2D ev2 (by omega))
  refine oW.l2d (pc' := 3) K d4_2 ev2 rfl ?_
  refine oW.lload (pc' := 5) K d4_3 rfl rfl ?_
  obtain ⟨v5, ev5⟩ : ∃ t_ : UInt64, t_ = FP.l2d de := ⟨_, rfl⟩
  have qv5 := h2 ▸ oQ.int (oL2D ev5 (by omega))
  refine oW.l2d (pc' := 6) K d4_5 ev5 rfl ?_
  obtain ⟨v6, ev6⟩ : ∃ t_ : UInt64, t_ = FP.ddiv v2 v5 := ⟨_, rfl⟩
  refine oW.ddiv (pc' := 7) K d4_6 ev6 (qv2.divnn qv5 ev6 (by omega) (by decide) (by decide)) rfl ?_
  obtain ⟨v7, ev7⟩ : ∃ t_ : Int32, t_ = cmpValue (FP.dcmp v v6) .l := ⟨_, rfl⟩
  refine oW.dcmp (pc' := 8) K d4_7 ev7 rfl ?_
  refine oW.if_ne (pc' := 15) (pc3 := 11) K d4_8 (by decide) (by decide) rfl (fun q => absurd (qX.divcmp qY eX qv2 qv5 ev6 ev7 (by omega) (by omega) (by decide) (by decide) (by decide) (by decide) (by show N * 32 * (8 * W * 1) = N * 1 * (W * 256); rw [Int.mul_one, Int.mul_one, Int.mul_assoc]; congr 1; omega)) q) (fun c8 => ?_)
  refine oW.iconst (v := (1 : Int32)) (pc' := 12) K d4_11 (by decide) rfl ?_
  refine oW.goto (pc' := 16) K d4_12 (by decide) (by decide) ?_
  exact oW.retB K rfl d4_16 (by decide) (by decide) ⟨_, rfl, rfl, rfl⟩
theorem pd_2 : parseMethodDescriptor "([D[D)[D" = some ⟨[(.array .double), (.array .double)], some (.array .double)⟩ := by decide +kernel
theorem pd_3 : parseMethodDescriptor "(DJJ)Z" = some ⟨[.double, .long, .long], some .boolean⟩ := by decide +kernel
set_option maxRecDepth 65536 in
set_option maxHeartbeats 40000000 in
theorem own_law_1 {l : Launch} {Z : State} {a0 : Array Value} {h0 : Heap} (hw : ∀ d ∈ tables_1, d.before a0 Z = true) (p0 : Int32) (p1 : Int32) (p2 : Int32) (p3 : Int32) (p4 : Int32) {p : Program} {e : Env} {s : State} {m : MethodId} {below : List Frame} {meth : Method} {c : Code} (K : oK p s m meth c Z x.cls code maxLocals ret x.name) :
    oW p l e room_1 s m #[(.int p0), (.int p1), (.int p2), (.int p3), (.int p4)] below meth c Z h0 (oVal fun w _ => w = .int 1) [] 0 0 10 #[.val (.int p0), .val (.int p1), .val (.int p2), .val (.int p3), .val (.int p4), .val (.long (1099511627776 : Int64)), .second, .unset, .unset, .unset, .unset, .unset, .unset, .unset, .unset, .unset, .unset, .unset, .unset, .unset, .unset, .unset, .unset, .unset, .unset, .unset, .unset, .unset, .unset, .unset, .unset, .unset, .unset, .unset, .unset, .unset, .unset, .unset, .unset, .unset, .unset, .unset, .unset, .unset, .unset, .unset, .unset, .unset, .unset, .unset, .unset, .unset, .unset, .unset, .unset, .unset, .unset, .unset, .unset, .unset, .unset] [(.int (0 : Int32)), (.int (1 : Int32))] := by
  refine oW.iadd (v := (1 : Int32)) (pc' := 11) K at_10 (by decide) rfl ?_
  refine oW.istore (Ls' := #[.val (.int p0), .val (.int p1), .val (.int p2), .val (.int p3), .val (.int p4), .val (.long (1099511627776 : Int64)), .second, .val (.int (1 : Int32)), .unset, .unset, .unset, .unset, .unset, .unset, .unset, .unset, .unset, .unset, .unset, .unset, .unset, .unset, .unset, .unset, .unset, .unset, .unset, .unset, .unset, .unset, .unset, .unset, .unset, .unset, .unset, .unset, .unset, .unset, .unset, .unset, .unset, .unset, .unset, .unset, .unset, .unset, .unset, .unset, .unset, .unset, .unset, .unset, .unset, .unset, .unset, .unset, .unset, .unset, .unset, .unset, .unset]) (pc' := 13) K at_11 rfl rfl ?_
  refine oW.iload (pc' := 15) K at_13 rfl rfl ?_
  refine oW.iconst (v := (2 : Int32)) (pc' := 16) K at_15 (by decide) rfl ?_
  obtain ⟨v16, ev16⟩ : ∃ t_ : Int32, t_ = XT.ushr p4 (2 : Int32) := ⟨_, rfl⟩
  refine oW.iushr (pc' := 17) K at_16 ev16 rfl ?_
  refine oW.iconst (v := (3 : Int32)) (pc' := 18) K at_17 (by decide) rfl ?_
  obtain ⟨v18, ev18⟩ : ∃ t_ : Int32, t_ = v16 &&& (3 : Int32) := ⟨_, rfl⟩
  refine oW.iand (pc' := 19) K at_18 ev18 rfl ?_
  have tv18 := oMaskR 3 (by decide) ev18
  refine oW.istore (Ls' := #[.val (.int p0), .val (.int p1), .val (.int p2), .val (.int p3), .val (.int p4), .val (.long (1099511627776 : Int64)), .second, .val (.int (1 : Int32)), .val (.int v18), .unset, .unset, .unset, .unset, .unset, .unset, .unset, .unset, .unset, .unset, .unset, .unset, .unset, .unset, .unset, .unset, .unset, .unset, .unset, .unset, .unset, .unset, .unset, .unset, .unset, .unset, .unset, .unset, .unset, .unset, .unset, .unset, .unset, .unset, .unset, .unset, .unset, .unset, .unset, .unset, .unset, .unset, .unset, .unset, .unset, .unset, .unset, .unset, .unset, .unset, .unset, .unset]) (pc' := 21) K at_19 rfl rfl ?_
  refine oW.iload (pc' := 23) K at_21 rfl rfl ?_
  refine oW.iconst (v := (4 : Int32)) (pc' := 24) K at_23 (by decide) rfl ?_
  obtain ⟨v24, ev24⟩ : ∃ t_ : Int32, t_ = XT.ushr p4 (4 : Int32) := ⟨_, rfl⟩
  refine oW.iushr (pc' := 25) K at_24 ev24 rfl ?_
  refine oW.iconst (v := (3 : Int32)) (pc' := 26) K at_25 (by decide) rfl ?_
  obtain ⟨v26, ev26⟩ : ∃ t_ : Int32, t_ = v24 &&& (3 : Int32) := ⟨_, rfl⟩
  refine oW.iand (pc' := 27) K at_26 ev26 rfl ?_
  have tv26 := oMaskR 3 (by decide) ev26
  refine oW.istore (Ls' := #[.val (.int p0), .val (.int p1), .val (.int p2), .val (.int p3), .val (.int p4), .val (.long (1099511627776 : Int64)), .second, .val (.int (1 : Int32)), .val (.int v18), .val (.int v26), .unset, .unset, .unset, .unset, .unset, .unset, .unset, .unset, .unset, .unset, .unset, .unset, .unset, .unset, .unset, .unset, .unset, .unset, .unset, .unset, .unset, .unset, .unset, .unset, .unset, .unset, .unset, .unset, .unset, .unset, .unset, .unset, .unset, .unset, .unset, .unset, .unset, .unset, .unset, .unset, .unset, .unset, .unset, .unset, .unset, .unset, .unset, .unset, .unset, .unset, .unset]) (pc' := 29) K at_27 rfl rfl ?_
  refine oW.iload (pc' := 31) K at_29 rfl rfl ?_
  refine oW.bipush (v := (6 : Int32)) (pc' := 33) K at_31 (by decide) rfl ?_
  obtain ⟨v33, ev33⟩ : ∃ t_ : Int32, t_ = XT.ushr p4 (6 : Int32) := ⟨_, rfl⟩
  refine oW.iushr (pc' := 34) K at_33 ev33 rfl ?_
  refine oW.iconst (v := (3 : Int32)) (pc' := 35) K at_34 (by decide) rfl ?_
  obtain ⟨v35, ev35⟩ : ∃ t_ : Int32, t_ = v33 &&& (3 : Int32) := ⟨_, rfl⟩
  refine oW.iand (pc' := 36) K at_35 ev35 rfl ?_
  have tv35 := oMaskR 3 (by decide) ev35
  refine oW.istore (Ls' := #[.val (.int p0), .val (.int p1), .val (.int p2), .val (.int p3), .val (.int p4), .val (.long (1099511627776 : Int64)), .second, .val (.int (1 : Int32)), .val (.int v18), .val (.int v26), .val (.int v35), .unset, .unset, .unset, .unset, .unset, .unset, .unset, .unset, .unset, .unset, .unset, .unset, .unset, .unset, .unset, .unset, .unset, .unset, .unset, .unset, .unset, .unset, .unset, .unset, .unset, .unset, .unset, .unset, .unset, .unset, .unset, .unset, .unset, .unset, .unset, .unset, .unset, .unset, .unset, .unset, .unset, .unset, .unset, .unset, .unset, .unset, .unset, .unset, .unset, .unset]) (pc' := 38) K at_36 rfl rfl ?_
  have b32 := oB32 p0
  obtain ⟨E0, hE0⟩ : ∃ n : Nat, v18.toInt = (n : Int) := ⟨v18.toInt.toNat, by omega⟩
  have bE0 : E0 ≤ 3 := by omega
  obtain ⟨x0, c0, hx0, hy0, hqc0, bq0, bc0⟩ := oPw bE0
  obtain ⟨E1, hE1⟩ : ∃ n : Nat, v26.toInt = (n : Int) := ⟨v26.toInt.toNat, by omega⟩
  have bE1 : E1 ≤ 3 := by omega
  obtain ⟨x1, c1, hx1, hy1, hqc1, bq1, bc1⟩ := oPw bE1
  obtain ⟨E2, hE2⟩ : ∃ n : Nat, v35.toInt = (n : Int) := ⟨v35.toInt.toNat, by omega⟩
  have bE2 : E2 ≤ 3 := by omega
  obtain ⟨x2, c2, hx2, hy2, hqc2, bq2, bc2⟩ := oPw bE2
  refine oW.iloadN (pc' := 39) K at_38 rfl rfl ?_
  refine oW.ldcI (pc' := 41) K (hw _ (List.mem_of_getElem? (i := 1) rfl)) at_39 rfl ?_
  obtain ⟨v41, ev41⟩ : ∃ t_ : Int32, t_ = p1 &&& (1048575 : Int32) := ⟨_, rfl⟩
  refine oW.iand (pc' := 42) K at_41 ev41 rfl ?_
  have tv41 := oMaskR 1048575 (by decide) ev41
  obtain ⟨v42, ev42⟩ : ∃ t_ : Int64, t_ = v41.toInt64 := ⟨_, rfl⟩
  refine oW.i2l (pc' := 43) K at_42 ev42 rfl ?_
  have tv42 : v42.toInt = v41.toInt := (oI2L ev42).trans rfl
  refine oW.lconst (v := (1 : Int64)) (pc' := 44) K at_43 (by decide) rfl ?_
  obtain ⟨v44, ev44⟩ : ∃ t_ : Int64, t_ = v42 + (1 : Int64) := ⟨_, rfl⟩
  refine oW.ladd (pc' := 45) K at_44 ev44 rfl ?_
  have tv44 : v44.toInt = v41.toInt + 1 := by have h1 := (tv42 : v42.toInt = _); have h2 := ((by decide : ((1 : Int64)).toInt = 1) : ((1 : Int64)).toInt = _); have h := oLadd ev44 (by omega); omega
  refine oW.lstore (Ls' := #[.val (.int p0), .val (.int p1), .val (.int p2), .val (.int p3), .val (.int p4), .val (.long (1099511627776 : Int64)), .second, .val (.int (1 : Int32)), .val (.int v18), .val (.int v26), .val (.int v35), .val (.long v44), .second, .unset, .unset, .unset, .unset, .unset, .unset, .unset, .unset, .unset, .unset, .unset, .unset, .unset, .unset, .unset, .unset, .unset, .unset, .unset, .unset, .unset, .unset, .unset, .unset, .unset, .unset, .unset, .unset, .unset, .unset, .unset, .unset, .unset, .unset, .unset, .unset, .unset, .unset, .unset, .unset, .unset, .unset, .unset, .unset, .unset, .unset, .unset, .unset]) (pc' := 47) K at_45 rfl rfl ?_
  refine oW.iloadN (pc' := 48) K at_47 rfl rfl ?_
  refine oW.ldcI (pc' := 50) K (hw _ (List.mem_of_getElem? (i := 1) rfl)) at_48 rfl ?_
  obtain ⟨v50, ev50⟩ : ∃ t_ : Int32, t_ = p2 &&& (1048575 : Int32) := ⟨_, rfl⟩
  refine oW.iand (pc' := 51) K at_50 ev50 rfl ?_
  have tv50 := oMaskR 1048575 (by decide) ev50
  obtain ⟨v51, ev51⟩ : ∃ t_ : Int64, t_ = v50.toInt64 := ⟨_, rfl⟩
  refine oW.i2l (pc' := 52) K at_51 ev51 rfl ?_
  have tv51 : v51.toInt = v50.toInt := (oI2L ev51).trans rfl
  refine oW.lconst (v := (1 : Int64)) (pc' := 53) K at_52 (by decide) rfl ?_
  obtain ⟨v53, ev53⟩ : ∃ t_ : Int64, t_ = v51 + (1 : Int64) := ⟨_, rfl⟩
  refine oW.ladd (pc' := 54) K at_53 ev53 rfl ?_
  have tv53 : v53.toInt = v50.toInt + 1 := by have h1 := (tv51 : v51.toInt = _); have h2 := ((by decide : ((1 : Int64)).toInt = 1) : ((1 : Int64)).toInt = _); have h := oLadd ev53 (by omega); omega
  refine oW.lstore (Ls' := #[.val (.int p0), .val (.int p1), .val (.int p2), .val (.int p3), .val (.int p4), .val (.long (1099511627776 : Int64)), .second, .val (.int (1 : Int32)), .val (.int v18), .val (.int v26), .val (.int v35), .val (.long v44), .second, .val (.long v53), .second, .unset, .unset, .unset, .unset, .unset, .unset, .unset, .unset, .unset, .unset, .unset, .unset, .unset, .unset, .unset, .unset, .unset, .unset, .unset, .unset, .unset, .unset, .unset, .unset, .unset, .unset, .unset, .unset, .unset, .unset, .unset, .unset, .unset, .unset, .unset, .unset, .unset, .unset, .unset, .unset, .unset, .unset, .unset, .unset, .unset, .unset]) (pc' := 56) K at_54 rfl rfl ?_
  refine oW.iloadN (pc' := 57) K at_56 rfl rfl ?_
  refine oW.ldcI (pc' := 59) K (hw _ (List.mem_of_getElem? (i := 1) rfl)) at_57 rfl ?_
  obtain ⟨v59, ev59⟩ : ∃ t_ : Int32, t_ = p3 &&& (1048575 : Int32) := ⟨_, rfl⟩
  refine oW.iand (pc' := 60) K at_59 ev59 rfl ?_
  have tv59 := oMaskR 1048575 (by decide) ev59
  obtain ⟨v60, ev60⟩ : ∃ t_ : Int64, t_ = v59.toInt64 := ⟨_, rfl⟩
  refine oW.i2l (pc' := 61) K at_60 ev60 rfl ?_
  have tv60 : v60.toInt = v59.toInt := (oI2L ev60).trans rfl
  refine oW.lconst (v := (1 : Int64)) (pc' := 62) K at_61 (by decide) rfl ?_
  obtain ⟨v62, ev62⟩ : ∃ t_ : Int64, t_ = v60 + (1 : Int64) := ⟨_, rfl⟩
  refine oW.ladd (pc' := 63) K at_62 ev62 rfl ?_
  have tv62 : v62.toInt = v59.toInt + 1 := by have h1 := (tv60 : v60.toInt = _); have h2 := ((by decide : ((1 : Int64)).toInt = 1) : ((1 : Int64)).toInt = _); have h := oLadd ev62 (by omega); omega
  refine oW.lstore (Ls' := #[.val (.int p0), .val (.int p1), .val (.int p2), .val (.int p3), .val (.int p4), .val (.long (1099511627776 : Int64)), .second, .val (.int (1 : Int32)), .val (.int v18), .val (.int v26), .val (.int v35), .val (.long v44), .second, .val (.long v53), .second, .val (.long v62), .second, .unset, .unset, .unset, .unset, .unset, .unset, .unset, .unset, .unset, .unset, .unset, .unset, .unset, .unset, .unset, .unset, .unset, .unset, .unset, .unset, .unset, .unset, .unset, .unset, .unset, .unset, .unset, .unset, .unset, .unset, .unset, .unset, .unset, .unset, .unset, .unset, .unset, .unset, .unset, .unset, .unset, .unset, .unset, .unset]) (pc' := 65) K at_63 rfl rfl ?_
  refine oW.iloadN (pc' := 66) K at_65 rfl rfl ?_
  obtain ⟨v66, ev66⟩ : ∃ t_ : Int64, t_ = p0.toInt64 := ⟨_, rfl⟩
  refine oW.i2l (pc' := 67) K at_66 ev66 rfl ?_
  have tv66 : v66.toInt = p0.toInt := (oI2L ev66).trans rfl
  refine oW.lstore (Ls' := #[.val (.int p0), .val (.int p1), .val (.int p2), .val (.int p3), .val (.int p4), .val (.long (1099511627776 : Int64)), .second, .val (.int (1 : Int32)), .val (.int v18), .val (.int v26), .val (.int v35), .val (.long v44), .second, .val (.long v53), .second, .val (.long v62), .second, .val (.long v66), .second, .unset, .unset, .unset, .unset, .unset, .unset, .unset, .unset, .unset, .unset, .unset, .unset, .unset, .unset, .unset, .unset, .unset, .unset, .unset, .unset, .unset, .unset, .unset, .unset, .unset, .unset, .unset, .unset, .unset, .unset, .unset, .unset, .unset, .unset, .unset, .unset, .unset, .unset, .unset, .unset, .unset, .unset]) (pc' := 69) K at_67 rfl rfl ?_
  refine oW.lload (pc' := 71) K at_69 rfl rfl ?_
  refine oW.lload (pc' := 73) K at_71 rfl rfl ?_
  obtain ⟨v73, ev73⟩ : ∃ t_ : Int64, t_ = v66 + v44 := ⟨_, rfl⟩
  refine oW.ladd (pc' := 74) K at_73 ev73 rfl ?_
  have tv73 : v73.toInt = p0.toInt + v41.toInt + 1 := by have h1 := (tv66 : v66.toInt = _); have h2 := (tv44 : v44.toInt = _); have h := oLadd ev73 (by omega); omega
  refine oW.lstore (Ls' := #[.val (.int p0), .val (.int p1), .val (.int p2), .val (.int p3), .val (.int p4), .val (.long (1099511627776 : Int64)), .second, .val (.int (1 : Int32)), .val (.int v18), .val (.int v26), .val (.int v35), .val (.long v44), .second, .val (.long v53), .second, .val (.long v62), .second, .val (.long v66), .second, .val (.long v73), .second, .unset, .unset, .unset, .unset, .unset, .unset, .unset, .unset, .unset, .unset, .unset, .unset, .unset, .unset, .unset, .unset, .unset, .unset, .unset, .unset, .unset, .unset, .unset, .unset, .unset, .unset, .unset, .unset, .unset, .unset, .unset, .unset, .unset, .unset, .unset, .unset, .unset, .unset, .unset, .unset]) (pc' := 76) K at_74 rfl rfl ?_
  refine oW.lload (pc' := 78) K at_76 rfl rfl ?_
  refine oW.lload (pc' := 80) K at_78 rfl rfl ?_
  obtain ⟨v80, ev80⟩ : ∃ t_ : Int64, t_ = v73 + v53 := ⟨_, rfl⟩
  refine oW.ladd (pc' := 81) K at_80 ev80 rfl ?_
  have tv80 : v80.toInt = p0.toInt + v41.toInt + 1 + v50.toInt + 1 := by have h1 := (tv73 : v73.toInt = _); have h2 := (tv53 : v53.toInt = _); have h := oLadd ev80 (by omega); omega
  refine oW.lstore (Ls' := #[.val (.int p0), .val (.int p1), .val (.int p2), .val (.int p3), .val (.int p4), .val (.long (1099511627776 : Int64)), .second, .val (.int (1 : Int32)), .val (.int v18), .val (.int v26), .val (.int v35), .val (.long v44), .second, .val (.long v53), .second, .val (.long v62), .second, .val (.long v66), .second, .val (.long v73), .second, .val (.long v80), .second, .unset, .unset, .unset, .unset, .unset, .unset, .unset, .unset, .unset, .unset, .unset, .unset, .unset, .unset, .unset, .unset, .unset, .unset, .unset, .unset, .unset, .unset, .unset, .unset, .unset, .unset, .unset, .unset, .unset, .unset, .unset, .unset, .unset, .unset, .unset, .unset, .unset, .unset]) (pc' := 83) K at_81 rfl rfl ?_
  refine oW.lload (pc' := 85) K at_83 rfl rfl ?_
  refine oW.lload (pc' := 87) K at_85 rfl rfl ?_
  obtain ⟨v87, ev87⟩ : ∃ t_ : Int64, t_ = v80 + v62 := ⟨_, rfl⟩
  refine oW.ladd (pc' := 88) K at_87 ev87 rfl ?_
  have tv87 : v87.toInt = p0.toInt + v41.toInt + 1 + v50.toInt + 1 + v59.toInt + 1 := by have h1 := (tv80 : v80.toInt = _); have h2 := (tv62 : v62.toInt = _); have h := oLadd ev87 (by omega); omega
  refine oW.lstore (Ls' := #[.val (.int p0), .val (.int p1), .val (.int p2), .val (.int p3), .val (.int p4), .val (.long (1099511627776 : Int64)), .second, .val (.int (1 : Int32)), .val (.int v18), .val (.int v26), .val (.int v35), .val (.long v44), .second, .val (.long v53), .second, .val (.long v62), .second, .val (.long v66), .second, .val (.long v73), .second, .val (.long v80), .second, .val (.long v87), .second, .unset, .unset, .unset, .unset, .unset, .unset, .unset, .unset, .unset, .unset, .unset, .unset, .unset, .unset, .unset, .unset, .unset, .unset, .unset, .unset, .unset, .unset, .unset, .unset, .unset, .unset, .unset, .unset, .unset, .unset, .unset, .unset, .unset, .unset, .unset, .unset]) (pc' := 90) K at_88 rfl rfl ?_
  refine oW.iload (pc' := 92) K at_90 rfl rfl ?_
  refine oW.iconst (v := (1 : Int32)) (pc' := 93) K at_92 (by decide) rfl ?_
  refine oW.icmp_ne (pc' := 101) (pc3 := 96) K at_93 (by decide) (by decide) rfl (fun q => absurd q (by decide)) (fun _ => ?_)
  refine oW.bipush (v := (32 : Int32)) (pc' := 98) K at_96 (by decide) rfl ?_
  refine oW.goto (pc' := 105) K at_98 (by decide) (by decide) ?_
  refine oW.istore (Ls' := #[.val (.int p0), .val (.int p1), .val (.int p2), .val (.int p3), .val (.int p4), .val (.long (1099511627776 : Int64)), .second, .val (.int (1 : Int32)), .val (.int v18), .val (.int v26), .val (.int v35), .val (.long v44), .second, .val (.long v53), .second, .val (.long v62), .second, .val (.long v66), .second, .val (.long v73), .second, .val (.long v80), .second, .val (.long v87), .second, .val (.int (32 : Int32)), .unset, .unset, .unset, .unset, .unset, .unset, .unset, .unset, .unset, .unset, .unset, .unset, .unset, .unset, .unset, .unset, .unset, .unset, .unset, .unset, .unset, .unset, .unset, .unset, .unset, .unset, .unset, .unset, .unset, .unset, .unset, .unset, .unset, .unset, .unset]) (pc' := 107) K at_105 rfl rfl ?_
  refine oW.iload (pc' := 109) K at_107 rfl rfl ?_
  refine oW.iconst (v := (2 : Int32)) (pc' := 110) K at_109 (by decide) rfl ?_
  refine oW.icmp_ge (pc' := 117) (pc3 := 113) K at_110 (by decide) (by decide) rfl (fun q => absurd q (by decide)) (fun _ => ?_)
  refine oW.iconst (v := (0 : Int32)) (pc' := 114) K at_113 (by decide) rfl ?_
  refine oW.goto (pc' := 135) K at_114 (by decide) (by decide) ?_
  refine oW.istore (Ls' := #[.val (.int p0), .val (.int p1), .val (.int p2), .val (.int p3), .val (.int p4), .val (.long (1099511627776 : Int64)), .second, .val (.int (1 : Int32)), .val (.int v18), .val (.int v26), .val (.int v35), .val (.long v44), .second, .val (.long v53), .second, .val (.long v62), .second, .val (.long v66), .second, .val (.long v73), .second, .val (.long v80), .second, .val (.long v87), .second, .val (.int (32 : Int32)), .val (.int (0 : Int32)), .unset, .unset, .unset, .unset, .unset, .unset, .unset, .unset, .unset, .unset, .unset, .unset, .unset, .unset, .unset, .unset, .unset, .unset, .unset, .unset, .unset, .unset, .unset, .unset, .unset, .unset, .unset, .unset, .unset, .unset, .unset, .unset, .unset, .unset]) (pc' := 137) K at_135 rfl rfl ?_
  refine oW.iload (pc' := 139) K at_137 rfl rfl ?_
  refine oW.iconst (v := (3 : Int32)) (pc' := 140) K at_139 (by decide) rfl ?_
  refine oW.icmp_ge (pc' := 147) (pc3 := 143) K at_140 (by decide) (by decide) rfl (fun q => absurd q (by decide)) (fun _ => ?_)
  refine oW.iconst (v := (0 : Int32)) (pc' := 144) K at_143 (by decide) rfl ?_
  refine oW.goto (pc' := 168) K at_144 (by decide) (by decide) ?_
  refine oW.istore (Ls' := #[.val (.int p0), .val (.int p1), .val (.int p2), .val (.int p3), .val (.int p4), .val (.long (1099511627776 : Int64)), .second, .val (.int (1 : Int32)), .val (.int v18), .val (.int v26), .val (.int v35), .val (.long v44), .second, .val (.long v53), .second, .val (.long v62), .second, .val (.long v66), .second, .val (.long v73), .second, .val (.long v80), .second, .val (.long v87), .second, .val (.int (32 : Int32)), .val (.int (0 : Int32)), .val (.int (0 : Int32)), .unset, .unset, .unset, .unset, .unset, .unset, .unset, .unset, .unset, .unset, .unset, .unset, .unset, .unset, .unset, .unset, .unset, .unset, .unset, .unset, .unset, .unset, .unset, .unset, .unset, .unset, .unset, .unset, .unset, .unset, .unset, .unset, .unset]) (pc' := 170) K at_168 rfl rfl ?_
  refine oW.iload (pc' := 172) K at_170 rfl rfl ?_
  refine oW.iconst (v := (4 : Int32)) (pc' := 173) K at_172 (by decide) rfl ?_
  refine oW.icmp_ge (pc' := 180) (pc3 := 176) K at_173 (by decide) (by decide) rfl (fun q => absurd q (by decide)) (fun _ => ?_)
  refine oW.iconst (v := (0 : Int32)) (pc' := 177) K at_176 (by decide) rfl ?_
  refine oW.goto (pc' := 191) K at_177 (by decide) (by decide) ?_
  refine oW.istore (Ls' := #[.val (.int p0), .val (.int p1), .val (.int p2), .val (.int p3), .val (.int p4), .val (.long (1099511627776 : Int64)), .second, .val (.int (1 : Int32)), .val (.int v18), .val (.int v26), .val (.int v35), .val (.long v44), .second, .val (.long v53), .second, .val (.long v62), .second, .val (.long v66), .second, .val (.long v73), .second, .val (.long v80), .second, .val (.long v87), .second, .val (.int (32 : Int32)), .val (.int (0 : Int32)), .val (.int (0 : Int32)), .val (.int (0 : Int32)), .unset, .unset, .unset, .unset, .unset, .unset, .unset, .unset, .unset, .unset, .unset, .unset, .unset, .unset, .unset, .unset, .unset, .unset, .unset, .unset, .unset, .unset, .unset, .unset, .unset, .unset, .unset, .unset, .unset, .unset, .unset, .unset]) (pc' := 193) K at_191 rfl rfl ?_
  obtain ⟨u0, hu0⟩ : ∃ z : Int, v66.toInt = z := ⟨_, rfl⟩
  obtain ⟨u1, hu1⟩ : ∃ z : Int, v73.toInt = z := ⟨_, rfl⟩
  obtain ⟨u2, hu2⟩ : ∃ z : Int, v80.toInt = z := ⟨_, rfl⟩
  obtain ⟨u3, hu3⟩ : ∃ z : Int, v87.toInt = z := ⟨_, rfl⟩
  obtain ⟨g1, hg1⟩ : ∃ z : Int, v44.toInt = z := ⟨_, rfl⟩
  obtain ⟨g2, hg2⟩ : ∃ z : Int, v53.toInt = z := ⟨_, rfl⟩
  obtain ⟨g3, hg3⟩ : ∃ z : Int, v62.toInt = z := ⟨_, rfl⟩
  have bu0 : -4294967296 ≤ u0 ∧ u0 ≤ 4294967296 := by omega
  have bu1 : -4294967296 ≤ u1 ∧ u1 ≤ 4294967296 := by omega
  have bu2 : -4294967296 ≤ u2 ∧ u2 ≤ 4294967296 := by omega
  have bu3 : -4294967296 ≤ u3 ∧ u3 ≤ 4294967296 := by omega
  have bg1 : 1 ≤ g1 ∧ g1 ≤ 1048576 := by omega
  have du0 : u1 - u0 = g1 := by omega
  have bg2 : 1 ≤ g2 ∧ g2 ≤ 1048576 := by omega
  have du1 : u2 - u1 = g2 := by omega
  have bg3 : 1 ≤ g3 ∧ g3 ≤ 1048576 := by omega
  have du2 : u3 - u2 = g3 := by omega
  try clear tv9
  try clear tv18
  try clear tv26
  try clear tv35
  try clear tv41
  try clear tv42
  try clear tv44
  try clear tv50
  try clear tv51
  try clear tv53
  try clear tv59
  try clear tv60
  try clear tv62
  try clear tv66
  try clear tv73
  try clear tv80
  try clear tv87
  try clear b32
  obtain ⟨T0, hT0⟩ : ∃ z : Int, z = 0 + 0 + 0 := ⟨_, rfl⟩
  have hP0 := oMB (a := g1) (A := 1048576) (by omega) (b := T0) (B := 32) (by omega)
  have hPc0 := oMB (a := g1 * T0) (A := 33554432) (by omega) (b := c0) (B := 8) (by omega)
  obtain ⟨R0, hR0⟩ : ∃ z : Int, u0 * 8 - g1 * T0 * c0 = z := ⟨_, rfl⟩
  obtain ⟨T1, hT1⟩ : ∃ z : Int, z = 0 + 0 := ⟨_, rfl⟩
  have hP1 := oMB (a := g2) (A := 1048576) (by omega) (b := T1) (B := 32) (by omega)
  have hPc1 := oMB (a := g2 * T1) (A := 33554432) (by omega) (b := c1) (B := 8) (by omega)
  obtain ⟨R1, hR1⟩ : ∃ z : Int, u1 * 8 - g2 * T1 * c1 = z := ⟨_, rfl⟩
  obtain ⟨T2, hT2⟩ : ∃ z : Int, z = 0 := ⟨_, rfl⟩
  have hP2 := oMB (a := g3) (A := 1048576) (by omega) (b := T2) (B := 32) (by omega)
  have hPc2 := oMB (a := g3 * T2) (A := 33554432) (by omega) (b := c2) (B := 8) (by omega)
  obtain ⟨R2, hR2⟩ : ∃ z : Int, u2 * 8 - g3 * T2 * c2 = z := ⟨_, rfl⟩
  refine oW.iload (pc' := 195) K at_193 rfl rfl ?_
  refine oW.newarr (n := 1) (cells' := 1) (slots' := 1) (dsf := fun z => [(z, .inl (.double, [(.double (0 : UInt64))]))]) (pc' := 197) K (hw _ (List.mem_of_getElem? (i := 2) rfl)) at_195 rfl (by decide) (by decide) (by decide) (by decide) rfl rfl (fun _ => rfl) rfl ?_
  intro a195 ha195
  refine oW.astore (Ls' := #[.val (.int p0), .val (.int p1), .val (.int p2), .val (.int p3), .val (.int p4), .val (.long (1099511627776 : Int64)), .second, .val (.int (1 : Int32)), .val (.int v18), .val (.int v26), .val (.int v35), .val (.long v44), .second, .val (.long v53), .second, .val (.long v62), .second, .val (.long v66), .second, .val (.long v73), .second, .val (.long v80), .second, .val (.long v87), .second, .val (.int (32 : Int32)), .val (.int (0 : Int32)), .val (.int (0 : Int32)), .val (.int (0 : Int32)), .val (.ref a195), .unset, .unset, .unset, .unset, .unset, .unset, .unset, .unset, .unset, .unset, .unset, .unset, .unset, .unset, .unset, .unset, .unset, .unset, .unset, .unset, .unset, .unset, .unset, .unset, .unset, .unset, .unset, .unset, .unset, .unset, .unset]) (pc' := 199) K at_197 rfl rfl rfl ?_
  refine oW.iload (pc' := 201) K at_199 rfl rfl ?_
  refine oW.newarr (n := 1) (cells' := 2) (slots' := 2) (dsf := fun z => [(a195, .inl (.double, [(.double (0 : UInt64))])), (z, .inl (.double, [(.double (0 : UInt64))]))]) (pc' := 203) K (hw _ (List.mem_of_getElem? (i := 2) rfl)) at_201 rfl (by decide) (by decide) (by decide) (by decide) rfl rfl (fun _ => rfl) rfl ?_
  intro a201 ha201
  refine oW.astore (Ls' := #[.val (.int p0), .val (.int p1), .val (.int p2), .val (.int p3), .val (.int p4), .val (.long (1099511627776 : Int64)), .second, .val (.int (1 : Int32)), .val (.int v18), .val (.int v26), .val (.int v35), .val (.long v44), .second, .val (.long v53), .second, .val (.long v62), .second, .val (.long v66), .second, .val (.long v73), .second, .val (.long v80), .second, .val (.long v87), .second, .val (.int (32 : Int32)), .val (.int (0 : Int32)), .val (.int (0 : Int32)), .val (.int (0 : Int32)), .val (.ref a195), .val (.ref a201), .unset, .unset, .unset, .unset, .unset, .unset, .unset, .unset, .unset, .unset, .unset, .unset, .unset, .unset, .unset, .unset, .unset, .unset, .unset, .unset, .unset, .unset, .unset, .unset, .unset, .unset, .unset, .unset, .unset, .unset]) (pc' := 205) K at_203 rfl rfl rfl ?_
  refine oW.aload (pc' := 207) K at_205 rfl rfl rfl ?_
  refine oW.iconst (v := (0 : Int32)) (pc' := 208) K at_207 (by decide) rfl ?_
  refine oW.lload (pc' := 210) K at_208 rfl rfl ?_
  obtain ⟨v210, ev210⟩ : ∃ t_ : UInt64, t_ = FP.l2d v66 := ⟨_, rfl⟩
  have qv210 : oQ (u0) 0 v210 := oQ.int (hu0 ▸ oL2D ev210 (by have h1 := hu0; omega))
  refine oW.l2d (pc' := 211) K at_210 ev210 rfl ?_
  refine oW.dastore (i := 0) (k := 0) (ds' := [(a195, .inl (.double, [(.double v210)])), (a201, .inl (.double, [(.double (0 : UInt64))]))]) (pc' := 212) K at_211 rfl rfl (by decide) (Nat.lt_of_sub_eq_succ rfl) rfl rfl ?_
  refine oW.aload (pc' := 214) K at_212 rfl rfl rfl ?_
  refine oW.iconst (v := (0 : Int32)) (pc' := 215) K at_214 (by decide) rfl ?_
  refine oW.iload (pc' := 217) K at_215 rfl rfl ?_
  refine oW.i2d (v := (4629700416936869888 : UInt64)) (pc' := 218) K at_217 (by decide +kernel) rfl ?_
  refine oW.ldc2D (pc' := 221) K (hw _ (List.mem_of_getElem? (i := 3) rfl)) at_218 rfl ?_
  obtain ⟨v221, ev221⟩ : ∃ t_ : UInt64, t_ = FP.ddiv (4629700416936869888 : UInt64) (4629700416936869888 : UInt64) := ⟨_, rfl⟩
  have qv221 : oQ (32) 5 v221 := (oQ.int (oDK 32 (by decide +kernel) (by decide))).divx (oQ.int (oDK 32 (by decide +kernel) (by decide))) ev221 _ 5 (by decide) (by decide) (by decide) (by decide) (by omega) (by show 32 * 1 * 32 = 32 * (32 * 1); omega)
  refine oW.ddiv (pc' := 222) K at_221 ev221 (qv221.nn) rfl ?_
  refine oW.dastore (i := 1) (k := 0) (ds' := [(a195, .inl (.double, [(.double v210)])), (a201, .inl (.double, [(.double v221)]))]) (pc' := 223) K at_222 rfl rfl (by decide) (Nat.lt_of_sub_eq_succ rfl) rfl rfl ?_
  refine oW.iload (pc' := 225) K at_223 rfl rfl ?_
  refine oW.iconst (v := (1 : Int32)) (pc' := 226) K at_225 (by decide) rfl ?_
  refine oW.icmp_le (pc' := 247) (pc3 := 229) K at_226 (by decide) (by decide) rfl (fun _ => ?_) (fun q => absurd q (by decide))
  refine oW.iload (pc' := 249) K at_247 rfl rfl ?_
  refine oW.iconst (v := (2 : Int32)) (pc' := 250) K at_249 (by decide) rfl ?_
  refine oW.icmp_le (pc' := 271) (pc3 := 253) K at_250 (by decide) (by decide) rfl (fun _ => ?_) (fun q => absurd q (by decide))
  refine oW.iload (pc' := 273) K at_271 rfl rfl ?_
  refine oW.iconst (v := (3 : Int32)) (pc' := 274) K at_273 (by decide) rfl ?_
  refine oW.icmp_le (pc' := 295) (pc3 := 277) K at_274 (by decide) (by decide) rfl (fun _ => ?_) (fun q => absurd q (by decide))
  refine oW.aload (pc' := 297) K at_295 rfl rfl rfl ?_
  refine oW.aload (pc' := 299) K at_297 rfl rfl rfl ?_
  have hRl : u0 * 8 = R0 := by rw [← hR0, hT0]; simp
  refine oW.callS (argsL := [(.ref a195), (.ref a201)]) (S := []) (rm := ({ frames := 2, cells := 5, slots := 20, locals := 60 } : Room)) (W := 0) (cells' := 7) (slots' := 22) (pc' := 302) K (hw _ (List.mem_of_getElem? (i := 4) rfl)) (hw _ (List.mem_of_getElem? (i := 5) rfl)) (hw _ (List.mem_of_getElem? (i := 6) rfl)) (hw _ (List.mem_of_getElem? (i := 7) rfl)) (by decide) (own_ir1 hw qv210 qv221 (by omega) (by omega) (by omega) (by omega) hRl) (lenOf pd_2 rfl) at_299 rfl rfl (Nat.le_of_eq rfl) (by decide) (by decide) (by decide) (by decide) rfl rfl rfl ?_
  rintro _ _ ⟨a2, a3, a4, a5, a6, l2, l3, l4, l5, v0, rfl, rfl, q0v⟩
  refine oW.astore (Ls' := #[.val (.int p0), .val (.int p1), .val (.int p2), .val (.int p3), .val (.int p4), .val (.long (1099511627776 : Int64)), .second, .val (.int (1 : Int32)), .val (.int v18), .val (.int v26), .val (.int v35), .val (.long v44), .second, .val (.long v53), .second, .val (.long v62), .second, .val (.long v66), .second, .val (.long v73), .second, .val (.long v80), .second, .val (.long v87), .second, .val (.int (32 : Int32)), .val (.int (0 : Int32)), .val (.int (0 : Int32)), .val (.int (0 : Int32)), .val (.ref a195), .val (.ref a201), .val (.ref a6), .unset, .unset, .unset, .unset, .unset, .unset, .unset, .unset, .unset, .unset, .unset, .unset, .unset, .unset, .unset, .unset, .unset, .unset, .unset, .unset, .unset, .unset, .unset, .unset, .unset, .unset, .unset, .unset, .unset]) (pc' := 304) K at_302 rfl rfl rfl ?_
  refine oW.aload (pc' := 306) K at_304 rfl rfl rfl ?_
  refine oW.alen (i := 6) (v := (1 : Int32)) (pc' := 307) K at_306 rfl rfl rfl ?_
  refine oW.iload (pc' := 309) K at_307 rfl rfl ?_
  refine oW.icmp_eq (pc' := 314) (pc3 := 312) K at_309 (by decide) (by decide) rfl (fun _ => ?_) (fun q => absurd q (by decide))
  refine oW.ldc2L (pc' := 317) K (hw _ (List.mem_of_getElem? (i := 16) rfl)) at_314 rfl ?_
  refine oW.lload (pc' := 319) K at_317 rfl rfl ?_
  obtain ⟨v319, ev319⟩ : ∃ t_ : Int64, t_ = (8 : Int64) * v66 := ⟨_, rfl⟩
  refine oW.lmul (pc' := 320) K at_319 ev319 rfl ?_
  have tv319 : v319.toInt = 8 * u0 := (oLmul ev319 (by rw [(by decide : ((8 : Int64)).toInt = 8), hu0]; omega)).trans (by rw [(by decide : ((8 : Int64)).toInt = 8), hu0])
  refine oW.lload (pc' := 322) K at_320 rfl rfl ?_
  refine oW.iload (pc' := 324) K at_322 rfl rfl ?_
  refine oW.iload (pc' := 326) K at_324 rfl rfl ?_
  refine oW.iadd (v := (0 : Int32)) (pc' := 327) K at_326 (by decide) rfl ?_
  refine oW.iload (pc' := 329) K at_327 rfl rfl ?_
  refine oW.iadd (v := (0 : Int32)) (pc' := 330) K at_329 (by decide) rfl ?_
  refine oW.i2l (v := (0 : Int64)) (pc' := 331) K at_330 (by decide) rfl ?_
  obtain ⟨v331, ev331⟩ : ∃ t_ : Int64, t_ = v44 * (0 : Int64) := ⟨_, rfl⟩
  refine oW.lmul (pc' := 332) K at_331 ev331 rfl ?_
  have tv331 : v331.toInt = g1 * 0 := (oLmul ev331 (by rw [hg1, (by decide : ((0 : Int64)).toInt = 0)]; omega)).trans (by rw [hg1, (by decide : ((0 : Int64)).toInt = 0)])
  refine oW.bipush (v := (8 : Int32)) (pc' := 334) K at_332 (by decide) rfl ?_
  refine oW.iload (pc' := 336) K at_334 rfl rfl ?_
  obtain ⟨v336, ev336⟩ : ∃ t_ : Int32, t_ = (8 : Int32) >>> (v18 &&& 31) := ⟨_, rfl⟩
  refine oW.ishr (pc' := 337) K at_336 ev336 rfl ?_
  have tv336 : v336.toInt = c0 := (oShr8 hE0 bE0 ev336).trans hy0
  obtain ⟨v337, ev337⟩ : ∃ t_ : Int64, t_ = v336.toInt64 := ⟨_, rfl⟩
  refine oW.i2l (pc' := 338) K at_337 ev337 rfl ?_
  have tv337 : v337.toInt = c0 := (oI2L ev337).trans tv336
  obtain ⟨v338, ev338⟩ : ∃ t_ : Int64, t_ = v331 * v337 := ⟨_, rfl⟩
  refine oW.lmul (pc' := 339) K at_338 ev338 rfl ?_
  have tv338 : v338.toInt = g1 * 0 * c0 := (oLmul ev338 (by rw [tv331, tv337]; omega)).trans (by rw [tv331, tv337])
  obtain ⟨v339, ev339⟩ : ∃ t_ : Int64, t_ = v319 - v338 := ⟨_, rfl⟩
  refine oW.lsub (pc' := 340) K at_339 ev339 rfl ?_
  have tv339 : v339.toInt = R0 := by have h1 := (tv319 : v319.toInt = _); have h2 := (tv338 : v338.toInt = _); have h := oLsub ev339 (by omega); omega
  refine oW.lstore (Ls' := #[.val (.int p0), .val (.int p1), .val (.int p2), .val (.int p3), .val (.int p4), .val (.long (1099511627776 : Int64)), .second, .val (.int (1 : Int32)), .val (.int v18), .val (.int v26), .val (.int v35), .val (.long v44), .second, .val (.long v53), .second, .val (.long v62), .second, .val (.long v66), .second, .val (.long v73), .second, .val (.long v80), .second, .val (.long v87), .second, .val (.int (32 : Int32)), .val (.int (0 : Int32)), .val (.int (0 : Int32)), .val (.int (0 : Int32)), .val (.ref a195), .val (.ref a201), .val (.ref a6), .val (.long v339), .second, .unset, .unset, .unset, .unset, .unset, .unset, .unset, .unset, .unset, .unset, .unset, .unset, .unset, .unset, .unset, .unset, .unset, .unset, .unset, .unset, .unset, .unset, .unset, .unset, .unset, .unset, .unset]) (pc' := 342) K at_340 rfl rfl ?_
  refine oW.iload (pc' := 344) K at_342 rfl rfl ?_
  refine oW.iconst (v := (1 : Int32)) (pc' := 345) K at_344 (by decide) rfl ?_
  refine oW.icmp_le (pc' := 374) (pc3 := 348) K at_345 (by decide) (by decide) rfl (fun _ => ?_) (fun q => absurd q (by decide))
  refine oW.lload (pc' := 376) K at_374 rfl rfl ?_
  refine oW.lstore (Ls' := #[.val (.int p0), .val (.int p1), .val (.int p2), .val (.int p3), .val (.int p4), .val (.long (1099511627776 : Int64)), .second, .val (.int (1 : Int32)), .val (.int v18), .val (.int v26), .val (.int v35), .val (.long v44), .second, .val (.long v53), .second, .val (.long v62), .second, .val (.long v66), .second, .val (.long v73), .second, .val (.long v80), .second, .val (.long v87), .second, .val (.int (32 : Int32)), .val (.int (0 : Int32)), .val (.int (0 : Int32)), .val (.int (0 : Int32)), .val (.ref a195), .val (.ref a201), .val (.ref a6), .val (.long v339), .second, .val (.long (1099511627776 : Int64)), .second, .unset, .unset, .unset, .unset, .unset, .unset, .unset, .unset, .unset, .unset, .unset, .unset, .unset, .unset, .unset, .unset, .unset, .unset, .unset, .unset, .unset, .unset, .unset, .unset, .unset]) (pc' := 378) K at_376 rfl rfl ?_
  refine oW.iload (pc' := 380) K at_378 rfl rfl ?_
  refine oW.iconst (v := (2 : Int32)) (pc' := 381) K at_380 (by decide) rfl ?_
  refine oW.icmp_le (pc' := 407) (pc3 := 384) K at_381 (by decide) (by decide) rfl (fun _ => ?_) (fun q => absurd q (by decide))
  refine oW.lload (pc' := 409) K at_407 rfl rfl ?_
  refine oW.lstore (Ls' := #[.val (.int p0), .val (.int p1), .val (.int p2), .val (.int p3), .val (.int p4), .val (.long (1099511627776 : Int64)), .second, .val (.int (1 : Int32)), .val (.int v18), .val (.int v26), .val (.int v35), .val (.long v44), .second, .val (.long v53), .second, .val (.long v62), .second, .val (.long v66), .second, .val (.long v73), .second, .val (.long v80), .second, .val (.long v87), .second, .val (.int (32 : Int32)), .val (.int (0 : Int32)), .val (.int (0 : Int32)), .val (.int (0 : Int32)), .val (.ref a195), .val (.ref a201), .val (.ref a6), .val (.long v339), .second, .val (.long (1099511627776 : Int64)), .second, .val (.long (1099511627776 : Int64)), .second, .unset, .unset, .unset, .unset, .unset, .unset, .unset, .unset, .unset, .unset, .unset, .unset, .unset, .unset, .unset, .unset, .unset, .unset, .unset, .unset, .unset, .unset, .unset]) (pc' := 411) K at_409 rfl rfl ?_
  refine oW.iload (pc' := 413) K at_411 rfl rfl ?_
  refine oW.i2l (v := (32 : Int64)) (pc' := 414) K at_413 (by decide) rfl ?_
  refine oW.lstore (Ls' := #[.val (.int p0), .val (.int p1), .val (.int p2), .val (.int p3), .val (.int p4), .val (.long (1099511627776 : Int64)), .second, .val (.int (1 : Int32)), .val (.int v18), .val (.int v26), .val (.int v35), .val (.long v44), .second, .val (.long v53), .second, .val (.long v62), .second, .val (.long v66), .second, .val (.long v73), .second, .val (.long v80), .second, .val (.long v87), .second, .val (.int (32 : Int32)), .val (.int (0 : Int32)), .val (.int (0 : Int32)), .val (.int (0 : Int32)), .val (.ref a195), .val (.ref a201), .val (.ref a6), .val (.long v339), .second, .val (.long (1099511627776 : Int64)), .second, .val (.long (1099511627776 : Int64)), .second, .val (.long (32 : Int64)), .second, .unset, .unset, .unset, .unset, .unset, .unset, .unset, .unset, .unset, .unset, .unset, .unset, .unset, .unset, .unset, .unset, .unset, .unset, .unset, .unset, .unset]) (pc' := 416) K at_414 rfl rfl ?_
  refine oW.iload (pc' := 418) K at_416 rfl rfl ?_
  refine oW.iconst (v := (1 : Int32)) (pc' := 419) K at_418 (by decide) rfl ?_
  refine oW.icmp_le (pc' := 428) (pc3 := 422) K at_419 (by decide) (by decide) rfl (fun _ => ?_) (fun q => absurd q (by decide))
  refine oW.lconst (v := (1 : Int64)) (pc' := 429) K at_428 (by decide) rfl ?_
  refine oW.lstore (Ls' := #[.val (.int p0), .val (.int p1), .val (.int p2), .val (.int p3), .val (.int p4), .val (.long (1099511627776 : Int64)), .second, .val (.int (1 : Int32)), .val (.int v18), .val (.int v26), .val (.int v35), .val (.long v44), .second, .val (.long v53), .second, .val (.long v62), .second, .val (.long v66), .second, .val (.long v73), .second, .val (.long v80), .second, .val (.long v87), .second, .val (.int (32 : Int32)), .val (.int (0 : Int32)), .val (.int (0 : Int32)), .val (.int (0 : Int32)), .val (.ref a195), .val (.ref a201), .val (.ref a6), .val (.long v339), .second, .val (.long (1099511627776 : Int64)), .second, .val (.long (1099511627776 : Int64)), .second, .val (.long (32 : Int64)), .second, .val (.long (1 : Int64)), .second, .unset, .unset, .unset, .unset, .unset, .unset, .unset, .unset, .unset, .unset, .unset, .unset, .unset, .unset, .unset, .unset, .unset, .unset, .unset]) (pc' := 431) K at_429 rfl rfl ?_
  refine oW.iload (pc' := 433) K at_431 rfl rfl ?_
  refine oW.iconst (v := (2 : Int32)) (pc' := 434) K at_433 (by decide) rfl ?_
  refine oW.icmp_le (pc' := 443) (pc3 := 437) K at_434 (by decide) (by decide) rfl (fun _ => ?_) (fun q => absurd q (by decide))
  refine oW.lconst (v := (1 : Int64)) (pc' := 444) K at_443 (by decide) rfl ?_
  refine oW.lstore (Ls' := #[.val (.int p0), .val (.int p1), .val (.int p2), .val (.int p3), .val (.int p4), .val (.long (1099511627776 : Int64)), .second, .val (.int (1 : Int32)), .val (.int v18), .val (.int v26), .val (.int v35), .val (.long v44), .second, .val (.long v53), .second, .val (.long v62), .second, .val (.long v66), .second, .val (.long v73), .second, .val (.long v80), .second, .val (.long v87), .second, .val (.int (32 : Int32)), .val (.int (0 : Int32)), .val (.int (0 : Int32)), .val (.int (0 : Int32)), .val (.ref a195), .val (.ref a201), .val (.ref a6), .val (.long v339), .second, .val (.long (1099511627776 : Int64)), .second, .val (.long (1099511627776 : Int64)), .second, .val (.long (32 : Int64)), .second, .val (.long (1 : Int64)), .second, .val (.long (1 : Int64)), .second, .unset, .unset, .unset, .unset, .unset, .unset, .unset, .unset, .unset, .unset, .unset, .unset, .unset, .unset, .unset, .unset, .unset]) (pc' := 446) K at_444 rfl rfl ?_
  refine oW.lload (pc' := 448) K at_446 rfl rfl ?_
  refine oW.lstore (Ls' := #[.val (.int p0), .val (.int p1), .val (.int p2), .val (.int p3), .val (.int p4), .val (.long (1099511627776 : Int64)), .second, .val (.int (1 : Int32)), .val (.int v18), .val (.int v26), .val (.int v35), .val (.long v44), .second, .val (.long v53), .second, .val (.long v62), .second, .val (.long v66), .second, .val (.long v73), .second, .val (.long v80), .second, .val (.long v87), .second, .val (.int (32 : Int32)), .val (.int (0 : Int32)), .val (.int (0 : Int32)), .val (.int (0 : Int32)), .val (.ref a195), .val (.ref a201), .val (.ref a6), .val (.long v339), .second, .val (.long (1099511627776 : Int64)), .second, .val (.long (1099511627776 : Int64)), .second, .val (.long (32 : Int64)), .second, .val (.long (1 : Int64)), .second, .val (.long (1 : Int64)), .second, .val (.long v339), .second, .unset, .unset, .unset, .unset, .unset, .unset, .unset, .unset, .unset, .unset, .unset, .unset, .unset, .unset, .unset]) (pc' := 450) K at_448 rfl rfl ?_
  refine oW.ldc2L (pc' := 453) K (hw _ (List.mem_of_getElem? (i := 16) rfl)) at_450 rfl ?_
  refine oW.lstore (Ls' := #[.val (.int p0), .val (.int p1), .val (.int p2), .val (.int p3), .val (.int p4), .val (.long (1099511627776 : Int64)), .second, .val (.int (1 : Int32)), .val (.int v18), .val (.int v26), .val (.int v35), .val (.long v44), .second, .val (.long v53), .second, .val (.long v62), .second, .val (.long v66), .second, .val (.long v73), .second, .val (.long v80), .second, .val (.long v87), .second, .val (.int (32 : Int32)), .val (.int (0 : Int32)), .val (.int (0 : Int32)), .val (.int (0 : Int32)), .val (.ref a195), .val (.ref a201), .val (.ref a6), .val (.long v339), .second, .val (.long (1099511627776 : Int64)), .second, .val (.long (1099511627776 : Int64)), .second, .val (.long (32 : Int64)), .second, .val (.long (1 : Int64)), .second, .val (.long (1 : Int64)), .second, .val (.long v339), .second, .val (.long (8 : Int64)), .second, .unset, .unset, .unset, .unset, .unset, .unset, .unset, .unset, .unset, .unset, .unset, .unset, .unset]) (pc' := 455) K at_453 rfl rfl ?_
  refine oW.lload (pc' := 457) K at_455 rfl rfl ?_
  refine oW.lstore (Ls' := #[.val (.int p0), .val (.int p1), .val (.int p2), .val (.int p3), .val (.int p4), .val (.long (1099511627776 : Int64)), .second, .val (.int (1 : Int32)), .val (.int v18), .val (.int v26), .val (.int v35), .val (.long v44), .second, .val (.long v53), .second, .val (.long v62), .second, .val (.long v66), .second, .val (.long v73), .second, .val (.long v80), .second, .val (.long v87), .second, .val (.int (32 : Int32)), .val (.int (0 : Int32)), .val (.int (0 : Int32)), .val (.int (0 : Int32)), .val (.ref a195), .val (.ref a201), .val (.ref a6), .val (.long v339), .second, .val (.long (1099511627776 : Int64)), .second, .val (.long (1099511627776 : Int64)), .second, .val (.long (32 : Int64)), .second, .val (.long (1 : Int64)), .second, .val (.long (1 : Int64)), .second, .val (.long v339), .second, .val (.long (8 : Int64)), .second, .val (.long (1099511627776 : Int64)), .second, .unset, .unset, .unset, .unset, .unset, .unset, .unset, .unset, .unset, .unset, .unset]) (pc' := 459) K at_457 rfl rfl ?_
  refine oW.ldc2L (pc' := 462) K (hw _ (List.mem_of_getElem? (i := 16) rfl)) at_459 rfl ?_
  refine oW.lstore (Ls' := #[.val (.int p0), .val (.int p1), .val (.int p2), .val (.int p3), .val (.int p4), .val (.long (1099511627776 : Int64)), .second, .val (.int (1 : Int32)), .val (.int v18), .val (.int v26), .val (.int v35), .val (.long v44), .second, .val (.long v53), .second, .val (.long v62), .second, .val (.long v66), .second, .val (.long v73), .second, .val (.long v80), .second, .val (.long v87), .second, .val (.int (32 : Int32)), .val (.int (0 : Int32)), .val (.int (0 : Int32)), .val (.int (0 : Int32)), .val (.ref a195), .val (.ref a201), .val (.ref a6), .val (.long v339), .second, .val (.long (1099511627776 : Int64)), .second, .val (.long (1099511627776 : Int64)), .second, .val (.long (32 : Int64)), .second, .val (.long (1 : Int64)), .second, .val (.long (1 : Int64)), .second, .val (.long v339), .second, .val (.long (8 : Int64)), .second, .val (.long (1099511627776 : Int64)), .second, .val (.long (8 : Int64)), .second, .unset, .unset, .unset, .unset, .unset, .unset, .unset, .unset, .unset]) (pc' := 464) K at_462 rfl rfl ?_
  refine oW.lload (pc' := 466) K at_464 rfl rfl ?_
  refine oW.lstore (Ls' := #[.val (.int p0), .val (.int p1), .val (.int p2), .val (.int p3), .val (.int p4), .val (.long (1099511627776 : Int64)), .second, .val (.int (1 : Int32)), .val (.int v18), .val (.int v26), .val (.int v35), .val (.long v44), .second, .val (.long v53), .second, .val (.long v62), .second, .val (.long v66), .second, .val (.long v73), .second, .val (.long v80), .second, .val (.long v87), .second, .val (.int (32 : Int32)), .val (.int (0 : Int32)), .val (.int (0 : Int32)), .val (.int (0 : Int32)), .val (.ref a195), .val (.ref a201), .val (.ref a6), .val (.long v339), .second, .val (.long (1099511627776 : Int64)), .second, .val (.long (1099511627776 : Int64)), .second, .val (.long (32 : Int64)), .second, .val (.long (1 : Int64)), .second, .val (.long (1 : Int64)), .second, .val (.long v339), .second, .val (.long (8 : Int64)), .second, .val (.long (1099511627776 : Int64)), .second, .val (.long (8 : Int64)), .second, .val (.long (1099511627776 : Int64)), .second, .unset, .unset, .unset, .unset, .unset, .unset, .unset]) (pc' := 468) K at_466 rfl rfl ?_
  refine oW.ldc2L (pc' := 471) K (hw _ (List.mem_of_getElem? (i := 16) rfl)) at_468 rfl ?_
  refine oW.lstore (Ls' := #[.val (.int p0), .val (.int p1), .val (.int p2), .val (.int p3), .val (.int p4), .val (.long (1099511627776 : Int64)), .second, .val (.int (1 : Int32)), .val (.int v18), .val (.int v26), .val (.int v35), .val (.long v44), .second, .val (.long v53), .second, .val (.long v62), .second, .val (.long v66), .second, .val (.long v73), .second, .val (.long v80), .second, .val (.long v87), .second, .val (.int (32 : Int32)), .val (.int (0 : Int32)), .val (.int (0 : Int32)), .val (.int (0 : Int32)), .val (.ref a195), .val (.ref a201), .val (.ref a6), .val (.long v339), .second, .val (.long (1099511627776 : Int64)), .second, .val (.long (1099511627776 : Int64)), .second, .val (.long (32 : Int64)), .second, .val (.long (1 : Int64)), .second, .val (.long (1 : Int64)), .second, .val (.long v339), .second, .val (.long (8 : Int64)), .second, .val (.long (1099511627776 : Int64)), .second, .val (.long (8 : Int64)), .second, .val (.long (1099511627776 : Int64)), .second, .val (.long (8 : Int64)), .second, .unset, .unset, .unset, .unset, .unset]) (pc' := 473) K at_471 rfl rfl ?_
  refine oW.lload (pc' := 475) K at_473 rfl rfl ?_
  refine oW.lload (pc' := 477) K at_475 rfl rfl ?_
  obtain ⟨v477, ev477⟩ : ∃ t_ : Int64, t_ = (32 : Int64) * v339 := ⟨_, rfl⟩
  refine oW.lmul (pc' := 478) K at_477 ev477 rfl ?_
  have tv477 : v477.toInt = 32 * R0 := (oLmul ev477 (by rw [(by decide : ((32 : Int64)).toInt = 32), tv339]; omega)).trans (by rw [(by decide : ((32 : Int64)).toInt = 32), tv339])
  refine oW.lload (pc' := 480) K at_478 rfl rfl ?_
  refine oW.lload (pc' := 482) K at_480 rfl rfl ?_
  refine oW.lmul (v := (1099511627776 : Int64)) (pc' := 483) K at_482 (by decide) rfl ?_
  obtain ⟨v483, ev483⟩ : ∃ t_ : Int64, t_ = v477 + (1099511627776 : Int64) := ⟨_, rfl⟩
  refine oW.ladd (pc' := 484) K at_483 ev483 rfl ?_
  have tv483 : v483.toInt = 32 * R0 + 1099511627776 := by have h1 := (tv477 : v477.toInt = _); have h2 := ((by decide : ((1099511627776 : Int64)).toInt = 1099511627776) : ((1099511627776 : Int64)).toInt = _); have h := oLadd ev483 (by omega); omega
  refine oW.lload (pc' := 486) K at_484 rfl rfl ?_
  refine oW.lload (pc' := 488) K at_486 rfl rfl ?_
  refine oW.lmul (v := (1099511627776 : Int64)) (pc' := 489) K at_488 (by decide) rfl ?_
  obtain ⟨v489, ev489⟩ : ∃ t_ : Int64, t_ = v483 + (1099511627776 : Int64) := ⟨_, rfl⟩
  refine oW.ladd (pc' := 490) K at_489 ev489 rfl ?_
  have tv489 : v489.toInt = 32 * R0 + 1099511627776 + 1099511627776 := by have h1 := (tv483 : v483.toInt = _); have h2 := ((by decide : ((1099511627776 : Int64)).toInt = 1099511627776) : ((1099511627776 : Int64)).toInt = _); have h := oLadd ev489 (by omega); omega
  refine oW.lstore (Ls' := #[.val (.int p0), .val (.int p1), .val (.int p2), .val (.int p3), .val (.int p4), .val (.long (1099511627776 : Int64)), .second, .val (.int (1 : Int32)), .val (.int v18), .val (.int v26), .val (.int v35), .val (.long v44), .second, .val (.long v53), .second, .val (.long v62), .second, .val (.long v66), .second, .val (.long v73), .second, .val (.long v80), .second, .val (.long v87), .second, .val (.int (32 : Int32)), .val (.int (0 : Int32)), .val (.int (0 : Int32)), .val (.int (0 : Int32)), .val (.ref a195), .val (.ref a201), .val (.ref a6), .val (.long v339), .second, .val (.long (1099511627776 : Int64)), .second, .val (.long (1099511627776 : Int64)), .second, .val (.long (32 : Int64)), .second, .val (.long (1 : Int64)), .second, .val (.long (1 : Int64)), .second, .val (.long v339), .second, .val (.long (8 : Int64)), .second, .val (.long (1099511627776 : Int64)), .second, .val (.long (8 : Int64)), .second, .val (.long (1099511627776 : Int64)), .second, .val (.long (8 : Int64)), .second, .val (.long v489), .second, .unset, .unset, .unset]) (pc' := 492) K at_490 rfl rfl ?_
  refine oW.ldc2L (pc' := 495) K (hw _ (List.mem_of_getElem? (i := 16) rfl)) at_492 rfl ?_
  refine oW.lload (pc' := 497) K at_495 rfl rfl ?_
  refine oW.lload (pc' := 499) K at_497 rfl rfl ?_
  refine oW.ladd (v := (33 : Int64)) (pc' := 500) K at_499 (by decide) rfl ?_
  refine oW.lload (pc' := 502) K at_500 rfl rfl ?_
  refine oW.ladd (v := (34 : Int64)) (pc' := 503) K at_502 (by decide) rfl ?_
  refine oW.lmul (v := (272 : Int64)) (pc' := 504) K at_503 (by decide) rfl ?_
  refine oW.lstore (Ls' := #[.val (.int p0), .val (.int p1), .val (.int p2), .val (.int p3), .val (.int p4), .val (.long (1099511627776 : Int64)), .second, .val (.int (1 : Int32)), .val (.int v18), .val (.int v26), .val (.int v35), .val (.long v44), .second, .val (.long v53), .second, .val (.long v62), .second, .val (.long v66), .second, .val (.long v73), .second, .val (.long v80), .second, .val (.long v87), .second, .val (.int (32 : Int32)), .val (.int (0 : Int32)), .val (.int (0 : Int32)), .val (.int (0 : Int32)), .val (.ref a195), .val (.ref a201), .val (.ref a6), .val (.long v339), .second, .val (.long (1099511627776 : Int64)), .second, .val (.long (1099511627776 : Int64)), .second, .val (.long (32 : Int64)), .second, .val (.long (1 : Int64)), .second, .val (.long (1 : Int64)), .second, .val (.long v339), .second, .val (.long (8 : Int64)), .second, .val (.long (1099511627776 : Int64)), .second, .val (.long (8 : Int64)), .second, .val (.long (1099511627776 : Int64)), .second, .val (.long (8 : Int64)), .second, .val (.long v489), .second, .val (.long (272 : Int64)), .second, .unset]) (pc' := 506) K at_504 rfl rfl ?_
  try clear tv9
  try clear tv18
  try clear tv26
  try clear tv35
  try clear tv41
  try clear tv42
  try clear tv44
  try clear tv50
  try clear tv51
  try clear tv53
  try clear tv59
  try clear tv60
  try clear tv62
  try clear tv66
  try clear tv73
  try clear tv80
  try clear tv87
  try clear tv319
  try clear tv331
  try clear tv336
  try clear tv337
  try clear tv338
  try clear tv477
  try clear tv483
  have bR0 : -68719476736 ≤ R0 ∧ R0 ≤ 68719476736 := by omega
  try clear hP0
  try clear hP1
  try clear hP2
  try clear hPc0
  try clear hPc1
  try clear hPc2
  try clear hR0
  try clear hR1
  try clear hR2
  try clear hT0
  try clear hT1
  try clear hT2
  try clear bg1
  try clear bg2
  try clear bg3
  try clear du0
  try clear du1
  try clear du2
  try clear bc0
  try clear bc1
  try clear bc2
  try clear hqc0
  try clear hqc1
  try clear hqc2
  try clear hx0
  try clear hx1
  try clear hx2
  try clear hy0
  try clear hy1
  try clear hy2
  try clear bu0
  try clear bu1
  try clear bu2
  try clear hg1
  try clear hg2
  try clear hg3
  try clear hu0
  try clear hu1
  try clear hu2
  try clear hE0
  try clear hE1
  try clear hE2
  try clear bE0
  try clear bE1
  try clear bE2
  refine oW.lload (pc' := 508) K at_506 rfl rfl ?_
  refine oW.lload (pc' := 510) K at_508 rfl rfl ?_
  obtain ⟨v510, ev510⟩ : ∃ t_ : Int32, t_ = XT.cmpL v339 (1099511627776 : Int64) := ⟨_, rfl⟩
  refine oW.lcmp (pc' := 511) K at_510 ev510 rfl ?_
  refine oW.if_gt (pc' := 607) (pc3 := 514) K at_511 (by decide) (by decide) rfl (fun q => absurd ((oLcmp ev510).2.2.mp q) (by have := (tv339 : v339.toInt = _); have := ((by decide : ((1099511627776 : Int64)).toInt = 1099511627776) : ((1099511627776 : Int64)).toInt = _); omega)) (fun c511 => ?_)
  refine oW.lload (pc' := 516) K at_514 rfl rfl ?_
  refine oW.lload (pc' := 518) K at_516 rfl rfl ?_
  refine oW.lcmp (v := (0 : Int32)) (pc' := 519) K at_518 (by decide) rfl ?_
  refine oW.if_le (pc' := 689) (pc3 := 522) K at_519 (by decide) (by decide) rfl (fun _ => ?_) (fun q => absurd q (by decide))
  refine oW.aload (pc' := 691) K at_689 rfl rfl rfl ?_
  refine oW.iconst (v := (0 : Int32)) (pc' := 692) K at_691 (by decide) rfl ?_
  refine oW.daload (i := 6) (k := 0) (pc' := 693) K at_692 rfl rfl (by decide) rfl rfl ?_
  refine oW.lload (pc' := 695) K at_693 rfl rfl ?_
  refine oW.lload (pc' := 697) K at_695 rfl rfl ?_
  refine oW.callS (argsL := [(.double v0), (.long v339), (.long (8 : Int64))]) (S := []) (rm := ({ frames := 0, cells := 0, slots := 0, locals := 0 } : Room)) (W := 0) (cells' := 7) (slots' := 22) (pc' := 700) K (hw _ (List.mem_of_getElem? (i := 17) rfl)) (hw _ (List.mem_of_getElem? (i := 18) rfl)) (hw _ (List.mem_of_getElem? (i := 19) rfl)) (hw _ (List.mem_of_getElem? (i := 20) rfl)) (by decide) (own_sameQ hw q0v (tv339) ((by decide : ((8 : Int64)).toInt = 8)) (by omega)) (lenOf pd_3 rfl) at_697 rfl rfl (Nat.le_of_eq rfl) (by decide) (by decide) (by decide) (by decide) rfl rfl rfl ?_
  rintro _ _ ⟨rfl, rfl⟩
  refine oW.istore (Ls' := #[.val (.int p0), .val (.int p1), .val (.int p2), .val (.int p3), .val (.int p4), .val (.long (1099511627776 : Int64)), .second, .val (.int (1 : Int32)), .val (.int v18), .val (.int v26), .val (.int v35), .val (.long v44), .second, .val (.long v53), .second, .val (.long v62), .second, .val (.long v66), .second, .val (.long v73), .second, .val (.long v80), .second, .val (.long v87), .second, .val (.int (32 : Int32)), .val (.int (0 : Int32)), .val (.int (0 : Int32)), .val (.int (0 : Int32)), .val (.ref a195), .val (.ref a201), .val (.ref a6), .val (.long v339), .second, .val (.long (1099511627776 : Int64)), .second, .val (.long (1099511627776 : Int64)), .second, .val (.long (32 : Int64)), .second, .val (.long (1 : Int64)), .second, .val (.long (1 : Int64)), .second, .val (.long v339), .second, .val (.long (8 : Int64)), .second, .val (.long (1099511627776 : Int64)), .second, .val (.long (8 : Int64)), .second, .val (.long (1099511627776 : Int64)), .second, .val (.long (8 : Int64)), .second, .val (.long v489), .second, .val (.long (272 : Int64)), .second, .val (.int (1 : Int32))]) (pc' := 702) K at_700 rfl rfl ?_
  refine oW.iload (pc' := 704) K at_702 rfl rfl ?_
  refine oW.iconst (v := (1 : Int32)) (pc' := 705) K at_704 (by decide) rfl ?_
  refine oW.icmp_le (pc' := 734) (pc3 := 708) K at_705 (by decide) (by decide) rfl (fun _ => ?_) (fun q => absurd q (by decide))
  refine oW.iload (pc' := 736) K at_734 rfl rfl ?_
  refine oW.iconst (v := (2 : Int32)) (pc' := 737) K at_736 (by decide) rfl ?_
  refine oW.icmp_le (pc' := 766) (pc3 := 740) K at_737 (by decide) (by decide) rfl (fun _ => ?_) (fun q => absurd q (by decide))
  refine oW.iload (pc' := 768) K at_766 rfl rfl ?_
  refine oW.iconst (v := (3 : Int32)) (pc' := 769) K at_768 (by decide) rfl ?_
  refine oW.icmp_le (pc' := 795) (pc3 := 772) K at_769 (by decide) (by decide) rfl (fun _ => ?_) (fun q => absurd q (by decide))
  refine oW.iload (pc' := 797) K at_795 rfl rfl ?_
  exact oW.retB K rfl at_797 (by decide) (by decide) ⟨_, rfl, rfl⟩
set_option maxRecDepth 65536 in
set_option maxHeartbeats 40000000 in
theorem own_law_2 {l : Launch} {Z : State} {a0 : Array Value} {h0 : Heap} (hw : ∀ d ∈ tables_1, d.before a0 Z = true) (p0 : Int32) (p1 : Int32) (p2 : Int32) (p3 : Int32) (p4 : Int32) {p : Program} {e : Env} {s : State} {m : MethodId} {below : List Frame} {meth : Method} {c : Code} (K : oK p s m meth c Z x.cls code maxLocals ret x.name) :
    oW p l e room_1 s m #[(.int p0), (.int p1), (.int p2), (.int p3), (.int p4)] below meth c Z h0 (oVal fun w _ => w = .int 1) [] 0 0 10 #[.val (.int p0), .val (.int p1), .val (.int p2), .val (.int p3), .val (.int p4), .val (.long (1099511627776 : Int64)), .second, .unset, .unset, .unset, .unset, .unset, .unset, .unset, .unset, .unset, .unset, .unset, .unset, .unset, .unset, .unset, .unset, .unset, .unset, .unset, .unset, .unset, .unset, .unset, .unset, .unset, .unset, .unset, .unset, .unset, .unset, .unset, .unset, .unset, .unset, .unset, .unset, .unset, .unset, .unset, .unset, .unset, .unset, .unset, .unset, .unset, .unset, .unset, .unset, .unset, .unset, .unset, .unset, .unset, .unset] [(.int (1 : Int32)), (.int (1 : Int32))] := by
  refine oW.iadd (v := (2 : Int32)) (pc' := 11) K at_10 (by decide) rfl ?_
  refine oW.istore (Ls' := #[.val (.int p0), .val (.int p1), .val (.int p2), .val (.int p3), .val (.int p4), .val (.long (1099511627776 : Int64)), .second, .val (.int (2 : Int32)), .unset, .unset, .unset, .unset, .unset, .unset, .unset, .unset, .unset, .unset, .unset, .unset, .unset, .unset, .unset, .unset, .unset, .unset, .unset, .unset, .unset, .unset, .unset, .unset, .unset, .unset, .unset, .unset, .unset, .unset, .unset, .unset, .unset, .unset, .unset, .unset, .unset, .unset, .unset, .unset, .unset, .unset, .unset, .unset, .unset, .unset, .unset, .unset, .unset, .unset, .unset, .unset, .unset]) (pc' := 13) K at_11 rfl rfl ?_
  refine oW.iload (pc' := 15) K at_13 rfl rfl ?_
  refine oW.iconst (v := (2 : Int32)) (pc' := 16) K at_15 (by decide) rfl ?_
  obtain ⟨v16, ev16⟩ : ∃ t_ : Int32, t_ = XT.ushr p4 (2 : Int32) := ⟨_, rfl⟩
  refine oW.iushr (pc' := 17) K at_16 ev16 rfl ?_
  refine oW.iconst (v := (3 : Int32)) (pc' := 18) K at_17 (by decide) rfl ?_
  obtain ⟨v18, ev18⟩ : ∃ t_ : Int32, t_ = v16 &&& (3 : Int32) := ⟨_, rfl⟩
  refine oW.iand (pc' := 19) K at_18 ev18 rfl ?_
  have tv18 := oMaskR 3 (by decide) ev18
  refine oW.istore (Ls' := #[.val (.int p0), .val (.int p1), .val (.int p2), .val (.int p3), .val (.int p4), .val (.long (1099511627776 : Int64)), .second, .val (.int (2 : Int32)), .val (.int v18), .unset, .unset, .unset, .unset, .unset, .unset, .unset, .unset, .unset, .unset, .unset, .unset, .unset, .unset, .unset, .unset, .unset, .unset, .unset, .unset, .unset, .unset, .unset, .unset, .unset, .unset, .unset, .unset, .unset, .unset, .unset, .unset, .unset, .unset, .unset, .unset, .unset, .unset, .unset, .unset, .unset, .unset, .unset, .unset, .unset, .unset, .unset, .unset, .unset, .unset, .unset, .unset]) (pc' := 21) K at_19 rfl rfl ?_
  refine oW.iload (pc' := 23) K at_21 rfl rfl ?_
  refine oW.iconst (v := (4 : Int32)) (pc' := 24) K at_23 (by decide) rfl ?_
  obtain ⟨v24, ev24⟩ : ∃ t_ : Int32, t_ = XT.ushr p4 (4 : Int32) := ⟨_, rfl⟩
  refine oW.iushr (pc' := 25) K at_24 ev24 rfl ?_
  refine oW.iconst (v := (3 : Int32)) (pc' := 26) K at_25 (by decide) rfl ?_
  obtain ⟨v26, ev26⟩ : ∃ t_ : Int32, t_ = v24 &&& (3 : Int32) := ⟨_, rfl⟩
  refine oW.iand (pc' := 27) K at_26 ev26 rfl ?_
  have tv26 := oMaskR 3 (by decide) ev26
  refine oW.istore (Ls' := #[.val (.int p0), .val (.int p1), .val (.int p2), .val (.int p3), .val (.int p4), .val (.long (1099511627776 : Int64)), .second, .val (.int (2 : Int32)), .val (.int v18), .val (.int v26), .unset, .unset, .unset, .unset, .unset, .unset, .unset, .unset, .unset, .unset, .unset, .unset, .unset, .unset, .unset, .unset, .unset, .unset, .unset, .unset, .unset, .unset, .unset, .unset, .unset, .unset, .unset, .unset, .unset, .unset, .unset, .unset, .unset, .unset, .unset, .unset, .unset, .unset, .unset, .unset, .unset, .unset, .unset, .unset, .unset, .unset, .unset, .unset, .unset, .unset, .unset]) (pc' := 29) K at_27 rfl rfl ?_
  refine oW.iload (pc' := 31) K at_29 rfl rfl ?_
  refine oW.bipush (v := (6 : Int32)) (pc' := 33) K at_31 (by decide) rfl ?_
  obtain ⟨v33, ev33⟩ : ∃ t_ : Int32, t_ = XT.ushr p4 (6 : Int32) := ⟨_, rfl⟩
  refine oW.iushr (pc' := 34) K at_33 ev33 rfl ?_
  refine oW.iconst (v := (3 : Int32)) (pc' := 35) K at_34 (by decide) rfl ?_
  obtain ⟨v35, ev35⟩ : ∃ t_ : Int32, t_ = v33 &&& (3 : Int32) := ⟨_, rfl⟩
  refine oW.iand (pc' := 36) K at_35 ev35 rfl ?_
  have tv35 := oMaskR 3 (by decide) ev35
  refine oW.istore (Ls' := #[.val (.int p0), .val (.int p1), .val (.int p2), .val (.int p3), .val (.int p4), .val (.long (1099511627776 : Int64)), .second, .val (.int (2 : Int32)), .val (.int v18), .val (.int v26), .val (.int v35), .unset, .unset, .unset, .unset, .unset, .unset, .unset, .unset, .unset, .unset, .unset, .unset, .unset, .unset, .unset, .unset, .unset, .unset, .unset, .unset, .unset, .unset, .unset, .unset, .unset, .unset, .unset, .unset, .unset, .unset, .unset, .unset, .unset, .unset, .unset, .unset, .unset, .unset, .unset, .unset, .unset, .unset, .unset, .unset, .unset, .unset, .unset, .unset, .unset, .unset]) (pc' := 38) K at_36 rfl rfl ?_
  have b32 := oB32 p0
  obtain ⟨E0, hE0⟩ : ∃ n : Nat, v18.toInt = (n : Int) := ⟨v18.toInt.toNat, by omega⟩
  have bE0 : E0 ≤ 3 := by omega
  obtain ⟨q0, c0, hx0, hy0, hqc0, bq0, bc0⟩ := oPw bE0
  obtain ⟨E1, hE1⟩ : ∃ n : Nat, v26.toInt = (n : Int) := ⟨v26.toInt.toNat, by omega⟩
  have bE1 : E1 ≤ 3 := by omega
  obtain ⟨x1, c1, hx1, hy1, hqc1, bq1, bc1⟩ := oPw bE1
  obtain ⟨E2, hE2⟩ : ∃ n : Nat, v35.toInt = (n : Int) := ⟨v35.toInt.toNat, by omega⟩
  have bE2 : E2 ≤ 3 := by omega
  obtain ⟨x2, c2, hx2, hy2, hqc2, bq2, bc2⟩ := oPw bE2
  refine oW.iloadN (pc' := 39) K at_38 rfl rfl ?_
  refine oW.ldcI (pc' := 41) K (hw _ (List.mem_of_getElem? (i := 1) rfl)) at_39 rfl ?_
  obtain ⟨v41, ev41⟩ : ∃ t_ : Int32, t_ = p1 &&& (1048575 : Int32) := ⟨_, rfl⟩
  refine oW.iand (pc' := 42) K at_41 ev41 rfl ?_
  have tv41 := oMaskR 1048575 (by decide) ev41
  obtain ⟨v42, ev42⟩ : ∃ t_ : Int64, t_ = v41.toInt64 := ⟨_, rfl⟩
  refine oW.i2l (pc' := 43) K at_42 ev42 rfl ?_
  have tv42 : v42.toInt = v41.toInt := (oI2L ev42).trans rfl
  refine oW.lconst (v := (1 : Int64)) (pc' := 44) K at_43 (by decide) rfl ?_
  obtain ⟨v44, ev44⟩ : ∃ t_ : Int64, t_ = v42 + (1 : Int64) := ⟨_, rfl⟩
  refine oW.ladd (pc' := 45) K at_44 ev44 rfl ?_
  have tv44 : v44.toInt = v41.toInt + 1 := by have h1 := (tv42 : v42.toInt = _); have h2 := ((by decide : ((1 : Int64)).toInt = 1) : ((1 : Int64)).toInt = _); have h := oLadd ev44 (by omega); omega
  refine oW.lstore (Ls' := #[.val (.int p0), .val (.int p1), .val (.int p2), .val (.int p3), .val (.int p4), .val (.long (1099511627776 : Int64)), .second, .val (.int (2 : Int32)), .val (.int v18), .val (.int v26), .val (.int v35), .val (.long v44), .second, .unset, .unset, .unset, .unset, .unset, .unset, .unset, .unset, .unset, .unset, .unset, .unset, .unset, .unset, .unset, .unset, .unset, .unset, .unset, .unset, .unset, .unset, .unset, .unset, .unset, .unset, .unset, .unset, .unset, .unset, .unset, .unset, .unset, .unset, .unset, .unset, .unset, .unset, .unset, .unset, .unset, .unset, .unset, .unset, .unset, .unset, .unset, .unset]) (pc' := 47) K at_45 rfl rfl ?_
  refine oW.iloadN (pc' := 48) K at_47 rfl rfl ?_
  refine oW.ldcI (pc' := 50) K (hw _ (List.mem_of_getElem? (i := 1) rfl)) at_48 rfl ?_
  obtain ⟨v50, ev50⟩ : ∃ t_ : Int32, t_ = p2 &&& (1048575 : Int32) := ⟨_, rfl⟩
  refine oW.iand (pc' := 51) K at_50 ev50 rfl ?_
  have tv50 := oMaskR 1048575 (by decide) ev50
  obtain ⟨v51, ev51⟩ : ∃ t_ : Int64, t_ = v50.toInt64 := ⟨_, rfl⟩
  refine oW.i2l (pc' := 52) K at_51 ev51 rfl ?_
  have tv51 : v51.toInt = v50.toInt := (oI2L ev51).trans rfl
  refine oW.lconst (v := (1 : Int64)) (pc' := 53) K at_52 (by decide) rfl ?_
  obtain ⟨v53, ev53⟩ : ∃ t_ : Int64, t_ = v51 + (1 : Int64) := ⟨_, rfl⟩
  refine oW.ladd (pc' := 54) K at_53 ev53 rfl ?_
  have tv53 : v53.toInt = v50.toInt + 1 := by have h1 := (tv51 : v51.toInt = _); have h2 := ((by decide : ((1 : Int64)).toInt = 1) : ((1 : Int64)).toInt = _); have h := oLadd ev53 (by omega); omega
  refine oW.lstore (Ls' := #[.val (.int p0), .val (.int p1), .val (.int p2), .val (.int p3), .val (.int p4), .val (.long (1099511627776 : Int64)), .second, .val (.int (2 : Int32)), .val (.int v18), .val (.int v26), .val (.int v35), .val (.long v44), .second, .val (.long v53), .second, .unset, .unset, .unset, .unset, .unset, .unset, .unset, .unset, .unset, .unset, .unset, .unset, .unset, .unset, .unset, .unset, .unset, .unset, .unset, .unset, .unset, .unset, .unset, .unset, .unset, .unset, .unset, .unset, .unset, .unset, .unset, .unset, .unset, .unset, .unset, .unset, .unset, .unset, .unset, .unset, .unset, .unset, .unset, .unset, .unset, .unset]) (pc' := 56) K at_54 rfl rfl ?_
  refine oW.iloadN (pc' := 57) K at_56 rfl rfl ?_
  refine oW.ldcI (pc' := 59) K (hw _ (List.mem_of_getElem? (i := 1) rfl)) at_57 rfl ?_
  obtain ⟨v59, ev59⟩ : ∃ t_ : Int32, t_ = p3 &&& (1048575 : Int32) := ⟨_, rfl⟩
  refine oW.iand (pc' := 60) K at_59 ev59 rfl ?_
  have tv59 := oMaskR 1048575 (by decide) ev59
  obtain ⟨v60, ev60⟩ : ∃ t_ : Int64, t_ = v59.toInt64 := ⟨_, rfl⟩
  refine oW.i2l (pc' := 61) K at_60 ev60 rfl ?_
  have tv60 : v60.toInt = v59.toInt := (oI2L ev60).trans rfl
  refine oW.lconst (v := (1 : Int64)) (pc' := 62) K at_61 (by decide) rfl ?_
  obtain ⟨v62, ev62⟩ : ∃ t_ : Int64, t_ = v60 + (1 : Int64) := ⟨_, rfl⟩
  refine oW.ladd (pc' := 63) K at_62 ev62 rfl ?_
  have tv62 : v62.toInt = v59.toInt + 1 := by have h1 := (tv60 : v60.toInt = _); have h2 := ((by decide : ((1 : Int64)).toInt = 1) : ((1 : Int64)).toInt = _); have h := oLadd ev62 (by omega); omega
  refine oW.lstore (Ls' := #[.val (.int p0), .val (.int p1), .val (.int p2), .val (.int p3), .val (.int p4), .val (.long (1099511627776 : Int64)), .second, .val (.int (2 : Int32)), .val (.int v18), .val (.int v26), .val (.int v35), .val (.long v44), .second, .val (.long v53), .second, .val (.long v62), .second, .unset, .unset, .unset, .unset, .unset, .unset, .unset, .unset, .unset, .unset, .unset, .unset, .unset, .unset, .unset, .unset, .unset, .unset, .unset, .unset, .unset, .unset, .unset, .unset, .unset, .unset, .unset, .unset, .unset, .unset, .unset, .unset, .unset, .unset, .unset, .unset, .unset, .unset, .unset, .unset, .unset, .unset, .unset, .unset]) (pc' := 65) K at_63 rfl rfl ?_
  refine oW.iloadN (pc' := 66) K at_65 rfl rfl ?_
  obtain ⟨v66, ev66⟩ : ∃ t_ : Int64, t_ = p0.toInt64 := ⟨_, rfl⟩
  refine oW.i2l (pc' := 67) K at_66 ev66 rfl ?_
  have tv66 : v66.toInt = p0.toInt := (oI2L ev66).trans rfl
  refine oW.lstore (Ls' := #[.val (.int p0), .val (.int p1), .val (.int p2), .val (.int p3), .val (.int p4), .val (.long (1099511627776 : Int64)), .second, .val (.int (2 : Int32)), .val (.int v18), .val (.int v26), .val (.int v35), .val (.long v44), .second, .val (.long v53), .second, .val (.long v62), .second, .val (.long v66), .second, .unset, .unset, .unset, .unset, .unset, .unset, .unset, .unset, .unset, .unset, .unset, .unset, .unset, .unset, .unset, .unset, .unset, .unset, .unset, .unset, .unset, .unset, .unset, .unset, .unset, .unset, .unset, .unset, .unset, .unset, .unset, .unset, .unset, .unset, .unset, .unset, .unset, .unset, .unset, .unset, .unset, .unset]) (pc' := 69) K at_67 rfl rfl ?_
  refine oW.lload (pc' := 71) K at_69 rfl rfl ?_
  refine oW.lload (pc' := 73) K at_71 rfl rfl ?_
  obtain ⟨v73, ev73⟩ : ∃ t_ : Int64, t_ = v66 + v44 := ⟨_, rfl⟩
  refine oW.ladd (pc' := 74) K at_73 ev73 rfl ?_
  have tv73 : v73.toInt = p0.toInt + v41.toInt + 1 := by have h1 := (tv66 : v66.toInt = _); have h2 := (tv44 : v44.toInt = _); have h := oLadd ev73 (by omega); omega
  refine oW.lstore (Ls' := #[.val (.int p0), .val (.int p1), .val (.int p2), .val (.int p3), .val (.int p4), .val (.long (1099511627776 : Int64)), .second, .val (.int (2 : Int32)), .val (.int v18), .val (.int v26), .val (.int v35), .val (.long v44), .second, .val (.long v53), .second, .val (.long v62), .second, .val (.long v66), .second, .val (.long v73), .second, .unset, .unset, .unset, .unset, .unset, .unset, .unset, .unset, .unset, .unset, .unset, .unset, .unset, .unset, .unset, .unset, .unset, .unset, .unset, .unset, .unset, .unset, .unset, .unset, .unset, .unset, .unset, .unset, .unset, .unset, .unset, .unset, .unset, .unset, .unset, .unset, .unset, .unset, .unset, .unset]) (pc' := 76) K at_74 rfl rfl ?_
  refine oW.lload (pc' := 78) K at_76 rfl rfl ?_
  refine oW.lload (pc' := 80) K at_78 rfl rfl ?_
  obtain ⟨v80, ev80⟩ : ∃ t_ : Int64, t_ = v73 + v53 := ⟨_, rfl⟩
  refine oW.ladd (pc' := 81) K at_80 ev80 rfl ?_
  have tv80 : v80.toInt = p0.toInt + v41.toInt + 1 + v50.toInt + 1 := by have h1 := (tv73 : v73.toInt = _); have h2 := (tv53 : v53.toInt = _); have h := oLadd ev80 (by omega); omega
  refine oW.lstore (Ls' := #[.val (.int p0), .val (.int p1), .val (.int p2), .val (.int p3), .val (.int p4), .val (.long (1099511627776 : Int64)), .second, .val (.int (2 : Int32)), .val (.int v18), .val (.int v26), .val (.int v35), .val (.long v44), .second, .val (.long v53), .second, .val (.long v62), .second, .val (.long v66), .second, .val (.long v73), .second, .val (.long v80), .second, .unset, .unset, .unset, .unset, .unset, .unset, .unset, .unset, .unset, .unset, .unset, .unset, .unset, .unset, .unset, .unset, .unset, .unset, .unset, .unset, .unset, .unset, .unset, .unset, .unset, .unset, .unset, .unset, .unset, .unset, .unset, .unset, .unset, .unset, .unset, .unset, .unset, .unset]) (pc' := 83) K at_81 rfl rfl ?_
  refine oW.lload (pc' := 85) K at_83 rfl rfl ?_
  refine oW.lload (pc' := 87) K at_85 rfl rfl ?_
  obtain ⟨v87, ev87⟩ : ∃ t_ : Int64, t_ = v80 + v62 := ⟨_, rfl⟩
  refine oW.ladd (pc' := 88) K at_87 ev87 rfl ?_
  have tv87 : v87.toInt = p0.toInt + v41.toInt + 1 + v50.toInt + 1 + v59.toInt + 1 := by have h1 := (tv80 : v80.toInt = _); have h2 := (tv62 : v62.toInt = _); have h := oLadd ev87 (by omega); omega
  refine oW.lstore (Ls' := #[.val (.int p0), .val (.int p1), .val (.int p2), .val (.int p3), .val (.int p4), .val (.long (1099511627776 : Int64)), .second, .val (.int (2 : Int32)), .val (.int v18), .val (.int v26), .val (.int v35), .val (.long v44), .second, .val (.long v53), .second, .val (.long v62), .second, .val (.long v66), .second, .val (.long v73), .second, .val (.long v80), .second, .val (.long v87), .second, .unset, .unset, .unset, .unset, .unset, .unset, .unset, .unset, .unset, .unset, .unset, .unset, .unset, .unset, .unset, .unset, .unset, .unset, .unset, .unset, .unset, .unset, .unset, .unset, .unset, .unset, .unset, .unset, .unset, .unset, .unset, .unset, .unset, .unset, .unset, .unset]) (pc' := 90) K at_88 rfl rfl ?_
  refine oW.iload (pc' := 92) K at_90 rfl rfl ?_
  refine oW.iconst (v := (1 : Int32)) (pc' := 93) K at_92 (by decide) rfl ?_
  refine oW.icmp_ne (pc' := 101) (pc3 := 96) K at_93 (by decide) (by decide) rfl (fun _ => ?_) (fun q => absurd q (by decide))
  refine oW.iconst (v := (1 : Int32)) (pc' := 102) K at_101 (by decide) rfl ?_
  refine oW.iload (pc' := 104) K at_102 rfl rfl ?_
  obtain ⟨v104, ev104⟩ : ∃ t_ : Int32, t_ = (1 : Int32) <<< (v18 &&& 31) := ⟨_, rfl⟩
  refine oW.ishl (pc' := 105) K at_104 ev104 rfl ?_
  have tv104 : v104.toInt = q0 := (oShlI hE0 (Nat.le_trans bE0 (by decide)) ev104).trans hx0
  refine oW.istore (Ls' := #[.val (.int p0), .val (.int p1), .val (.int p2), .val (.int p3), .val (.int p4), .val (.long (1099511627776 : Int64)), .second, .val (.int (2 : Int32)), .val (.int v18), .val (.int v26), .val (.int v35), .val (.long v44), .second, .val (.long v53), .second, .val (.long v62), .second, .val (.long v66), .second, .val (.long v73), .second, .val (.long v80), .second, .val (.long v87), .second, .val (.int v104), .unset, .unset, .unset, .unset, .unset, .unset, .unset, .unset, .unset, .unset, .unset, .unset, .unset, .unset, .unset, .unset, .unset, .unset, .unset, .unset, .unset, .unset, .unset, .unset, .unset, .unset, .unset, .unset, .unset, .unset, .unset, .unset, .unset, .unset, .unset]) (pc' := 107) K at_105 rfl rfl ?_
  refine oW.iload (pc' := 109) K at_107 rfl rfl ?_
  refine oW.iconst (v := (2 : Int32)) (pc' := 110) K at_109 (by decide) rfl ?_
  refine oW.icmp_ge (pc' := 117) (pc3 := 113) K at_110 (by decide) (by decide) rfl (fun _ => ?_) (fun q => absurd q (by decide))
  refine oW.iload (pc' := 119) K at_117 rfl rfl ?_
  refine oW.iconst (v := (2 : Int32)) (pc' := 120) K at_119 (by decide) rfl ?_
  refine oW.icmp_ne (pc' := 131) (pc3 := 123) K at_120 (by decide) (by decide) rfl (fun q => absurd q (by decide)) (fun _ => ?_)
  refine oW.bipush (v := (32 : Int32)) (pc' := 125) K at_123 (by decide) rfl ?_
  refine oW.iload (pc' := 127) K at_125 rfl rfl ?_
  obtain ⟨v127, ev127⟩ : ∃ t_ : Int32, t_ = (32 : Int32) - v104 := ⟨_, rfl⟩
  refine oW.isub (pc' := 128) K at_127 ev127 rfl ?_
  have tv127 : v127.toInt = 32 - q0 := by have h1 := ((by decide : ((32 : Int32)).toInt = 32) : ((32 : Int32)).toInt = _); have h2 := (tv104 : v104.toInt = _); have h := oIsub ev127 (by omega); omega
  refine oW.goto (pc' := 135) K at_128 (by decide) (by decide) ?_
  refine oW.istore (Ls' := #[.val (.int p0), .val (.int p1), .val (.int p2), .val (.int p3), .val (.int p4), .val (.long (1099511627776 : Int64)), .second, .val (.int (2 : Int32)), .val (.int v18), .val (.int v26), .val (.int v35), .val (.long v44), .second, .val (.long v53), .second, .val (.long v62), .second, .val (.long v66), .second, .val (.long v73), .second, .val (.long v80), .second, .val (.long v87), .second, .val (.int v104), .val (.int v127), .unset, .unset, .unset, .unset, .unset, .unset, .unset, .unset, .unset, .unset, .unset, .unset, .unset, .unset, .unset, .unset, .unset, .unset, .unset, .unset, .unset, .unset, .unset, .unset, .unset, .unset, .unset, .unset, .unset, .unset, .unset, .unset, .unset, .unset]) (pc' := 137) K at_135 rfl rfl ?_
  refine oW.iload (pc' := 139) K at_137 rfl rfl ?_
  refine oW.iconst (v := (3 : Int32)) (pc' := 140) K at_139 (by decide) rfl ?_
  refine oW.icmp_ge (pc' := 147) (pc3 := 143) K at_140 (by decide) (by decide) rfl (fun q => absurd q (by decide)) (fun _ => ?_)
  refine oW.iconst (v := (0 : Int32)) (pc' := 144) K at_143 (by decide) rfl ?_
  refine oW.goto (pc' := 168) K at_144 (by decide) (by decide) ?_
  refine oW.istore (Ls' := #[.val (.int p0), .val (.int p1), .val (.int p2), .val (.int p3), .val (.int p4), .val (.long (1099511627776 : Int64)), .second, .val (.int (2 : Int32)), .val (.int v18), .val (.int v26), .val (.int v35), .val (.long v44), .second, .val (.long v53), .second, .val (.long v62), .second, .val (.long v66), .second, .val (.long v73), .second, .val (.long v80), .second, .val (.long v87), .second, .val (.int v104), .val (.int v127), .val (.int (0 : Int32)), .unset, .unset, .unset, .unset, .unset, .unset, .unset, .unset, .unset, .unset, .unset, .unset, .unset, .unset, .unset, .unset, .unset, .unset, .unset, .unset, .unset, .unset, .unset, .unset, .unset, .unset, .unset, .unset, .unset, .unset, .unset, .unset, .unset]) (pc' := 170) K at_168 rfl rfl ?_
  refine oW.iload (pc' := 172) K at_170 rfl rfl ?_
  refine oW.iconst (v := (4 : Int32)) (pc' := 173) K at_172 (by decide) rfl ?_
  refine oW.icmp_ge (pc' := 180) (pc3 := 176) K at_173 (by decide) (by decide) rfl (fun q => absurd q (by decide)) (fun _ => ?_)
  refine oW.iconst (v := (0 : Int32)) (pc' := 177) K at_176 (by decide) rfl ?_
  refine oW.goto (pc' := 191) K at_177 (by decide) (by decide) ?_
  refine oW.istore (Ls' := #[.val (.int p0), .val (.int p1), .val (.int p2), .val (.int p3), .val (.int p4), .val (.long (1099511627776 : Int64)), .second, .val (.int (2 : Int32)), .val (.int v18), .val (.int v26), .val (.int v35), .val (.long v44), .second, .val (.long v53), .second, .val (.long v62), .second, .val (.long v66), .second, .val (.long v73), .second, .val (.long v80), .second, .val (.long v87), .second, .val (.int v104), .val (.int v127), .val (.int (0 : Int32)), .val (.int (0 : Int32)), .unset, .unset, .unset, .unset, .unset, .unset, .unset, .unset, .unset, .unset, .unset, .unset, .unset, .unset, .unset, .unset, .unset, .unset, .unset, .unset, .unset, .unset, .unset, .unset, .unset, .unset, .unset, .unset, .unset, .unset, .unset, .unset]) (pc' := 193) K at_191 rfl rfl ?_
  obtain ⟨u0, hu0⟩ : ∃ z : Int, v66.toInt = z := ⟨_, rfl⟩
  obtain ⟨u1, hu1⟩ : ∃ z : Int, v73.toInt = z := ⟨_, rfl⟩
  obtain ⟨u2, hu2⟩ : ∃ z : Int, v80.toInt = z := ⟨_, rfl⟩
  obtain ⟨u3, hu3⟩ : ∃ z : Int, v87.toInt = z := ⟨_, rfl⟩
  obtain ⟨g1, hg1⟩ : ∃ z : Int, v44.toInt = z := ⟨_, rfl⟩
  obtain ⟨g2, hg2⟩ : ∃ z : Int, v53.toInt = z := ⟨_, rfl⟩
  obtain ⟨g3, hg3⟩ : ∃ z : Int, v62.toInt = z := ⟨_, rfl⟩
  obtain ⟨q1, hq1⟩ : ∃ z : Int, v127.toInt = z := ⟨_, rfl⟩
  have bu0 : -4294967296 ≤ u0 ∧ u0 ≤ 4294967296 := by omega
  have bu1 : -4294967296 ≤ u1 ∧ u1 ≤ 4294967296 := by omega
  have bu2 : -4294967296 ≤ u2 ∧ u2 ≤ 4294967296 := by omega
  have bu3 : -4294967296 ≤ u3 ∧ u3 ≤ 4294967296 := by omega
  have bg1 : 1 ≤ g1 ∧ g1 ≤ 1048576 := by omega
  have du0 : u1 - u0 = g1 := by omega
  have bg2 : 1 ≤ g2 ∧ g2 ≤ 1048576 := by omega
  have du1 : u2 - u1 = g2 := by omega
  have bg3 : 1 ≤ g3 ∧ g3 ≤ 1048576 := by omega
  have du2 : u3 - u2 = g3 := by omega
  have bql : 1 ≤ q1 ∧ q1 ≤ 32 ∧ q0 + q1 = 32 := by omega
  try clear tv9
  try clear tv18
  try clear tv26
  try clear tv35
  try clear tv41
  try clear tv42
  try clear tv44
  try clear tv50
  try clear tv51
  try clear tv53
  try clear tv59
  try clear tv60
  try clear tv62
  try clear tv66
  try clear tv73
  try clear tv80
  try clear tv87
  try clear tv127
  try clear b32
  obtain ⟨T0, hT0⟩ : ∃ z : Int, z = q1 + 0 + 0 := ⟨_, rfl⟩
  have hP0 := oMB (a := g1) (A := 1048576) (by omega) (b := T0) (B := 32) (by omega)
  have hPc0 := oMB (a := g1 * T0) (A := 33554432) (by omega) (b := c0) (B := 8) (by omega)
  obtain ⟨R0, hR0⟩ : ∃ z : Int, u0 * 8 - g1 * T0 * c0 = z := ⟨_, rfl⟩
  obtain ⟨T1, hT1⟩ : ∃ z : Int, z = 0 + 0 := ⟨_, rfl⟩
  have hP1 := oMB (a := g2) (A := 1048576) (by omega) (b := T1) (B := 32) (by omega)
  have hPc1 := oMB (a := g2 * T1) (A := 33554432) (by omega) (b := c1) (B := 8) (by omega)
  obtain ⟨R1, hR1⟩ : ∃ z : Int, u1 * 8 - g2 * T1 * c1 = z := ⟨_, rfl⟩
  obtain ⟨T2, hT2⟩ : ∃ z : Int, z = 0 := ⟨_, rfl⟩
  have hP2 := oMB (a := g3) (A := 1048576) (by omega) (b := T2) (B := 32) (by omega)
  have hPc2 := oMB (a := g3 * T2) (A := 33554432) (by omega) (b := c2) (B := 8) (by omega)
  obtain ⟨R2, hR2⟩ : ∃ z : Int, u2 * 8 - g3 * T2 * c2 = z := ⟨_, rfl⟩
  have hN0 := oMBr (q := q0) (R := R0) (by omega) (by omega)
  have hN1 := oMBr (q := q1) (R := R1) (by omega) (by omega)
  refine oW.iload (pc' := 195) K at_193 rfl rfl ?_
  refine oW.newarr (n := 2) (cells' := 1) (slots' := 2) (dsf := fun z => [(z, .inl (.double, [(.double (0 : UInt64)), (.double (0 : UInt64))]))]) (pc' := 197) K (hw _ (List.mem_of_getElem? (i := 2) rfl)) at_195 rfl (by decide) (by decide) (by decide) (by decide) rfl rfl (fun _ => rfl) rfl ?_
  intro a195 ha195
  refine oW.astore (Ls' := #[.val (.int p0), .val (.int p1), .val (.int p2), .val (.int p3), .val (.int p4), .val (.long (1099511627776 : Int64)), .second, .val (.int (2 : Int32)), .val (.int v18), .val (.int v26), .val (.int v35), .val (.long v44), .second, .val (.long v53), .second, .val (.long v62), .second, .val (.long v66), .second, .val (.long v73), .second, .val (.long v80), .second, .val (.long v87), .second, .val (.int v104), .val (.int v127), .val (.int (0 : Int32)), .val (.int (0 : Int32)), .val (.ref a195), .unset, .unset, .unset, .unset, .unset, .unset, .unset, .unset, .unset, .unset, .unset, .unset, .unset, .unset, .unset, .unset, .unset, .unset, .unset, .unset, .unset, .unset, .unset, .unset, .unset, .unset, .unset, .unset, .unset, .unset, .unset]) (pc' := 199) K at_197 rfl rfl rfl ?_
  refine oW.iload (pc' := 201) K at_199 rfl rfl ?_
  refine oW.newarr (n := 2) (cells' := 2) (slots' := 4) (dsf := fun z => [(a195, .inl (.double, [(.double (0 : UInt64)), (.double (0 : UInt64))])), (z, .inl (.double, [(.double (0 : UInt64)), (.double (0 : UInt64))]))]) (pc' := 203) K (hw _ (List.mem_of_getElem? (i := 2) rfl)) at_201 rfl (by decide) (by decide) (by decide) (by decide) rfl rfl (fun _ => rfl) rfl ?_
  intro a201 ha201
  refine oW.astore (Ls' := #[.val (.int p0), .val (.int p1), .val (.int p2), .val (.int p3), .val (.int p4), .val (.long (1099511627776 : Int64)), .second, .val (.int (2 : Int32)), .val (.int v18), .val (.int v26), .val (.int v35), .val (.long v44), .second, .val (.long v53), .second, .val (.long v62), .second, .val (.long v66), .second, .val (.long v73), .second, .val (.long v80), .second, .val (.long v87), .second, .val (.int v104), .val (.int v127), .val (.int (0 : Int32)), .val (.int (0 : Int32)), .val (.ref a195), .val (.ref a201), .unset, .unset, .unset, .unset, .unset, .unset, .unset, .unset, .unset, .unset, .unset, .unset, .unset, .unset, .unset, .unset, .unset, .unset, .unset, .unset, .unset, .unset, .unset, .unset, .unset, .unset, .unset, .unset, .unset, .unset]) (pc' := 205) K at_203 rfl rfl rfl ?_
  refine oW.aload (pc' := 207) K at_205 rfl rfl rfl ?_
  refine oW.iconst (v := (0 : Int32)) (pc' := 208) K at_207 (by decide) rfl ?_
  refine oW.lload (pc' := 210) K at_208 rfl rfl ?_
  obtain ⟨v210, ev210⟩ : ∃ t_ : UInt64, t_ = FP.l2d v66 := ⟨_, rfl⟩
  have qv210 : oQ (u0) 0 v210 := oQ.int (hu0 ▸ oL2D ev210 (by have h1 := hu0; omega))
  refine oW.l2d (pc' := 211) K at_210 ev210 rfl ?_
  refine oW.dastore (i := 0) (k := 0) (ds' := [(a195, .inl (.double, [(.double v210), (.double (0 : UInt64))])), (a201, .inl (.double, [(.double (0 : UInt64)), (.double (0 : UInt64))]))]) (pc' := 212) K at_211 rfl rfl (by decide) (Nat.lt_of_sub_eq_succ rfl) rfl rfl ?_
  refine oW.aload (pc' := 214) K at_212 rfl rfl rfl ?_
  refine oW.iconst (v := (0 : Int32)) (pc' := 215) K at_214 (by decide) rfl ?_
  refine oW.iload (pc' := 217) K at_215 rfl rfl ?_
  obtain ⟨v217, ev217⟩ : ∃ t_ : UInt64, t_ = FP.i2d v104 := ⟨_, rfl⟩
  have qv217 : oQ (q0) 0 v217 := oQ.int (tv104 ▸ oI2D ev217)
  refine oW.i2d (pc' := 218) K at_217 ev217 rfl ?_
  refine oW.ldc2D (pc' := 221) K (hw _ (List.mem_of_getElem? (i := 3) rfl)) at_218 rfl ?_
  obtain ⟨v221, ev221⟩ : ∃ t_ : UInt64, t_ = FP.ddiv v217 (4629700416936869888 : UInt64) := ⟨_, rfl⟩
  have qv221 : oQ (q0) 5 v221 := qv217.divx (oQ.int (oDK 32 (by decide +kernel) (by decide))) ev221 _ 5 (by decide) (by decide) (by decide) (by decide) (by omega) (by show q0 * 1 * 32 = q0 * (32 * 1); omega)
  refine oW.ddiv (pc' := 222) K at_221 ev221 (qv221.nn) rfl ?_
  refine oW.dastore (i := 1) (k := 0) (ds' := [(a195, .inl (.double, [(.double v210), (.double (0 : UInt64))])), (a201, .inl (.double, [(.double v221), (.double (0 : UInt64))]))]) (pc' := 223) K at_222 rfl rfl (by decide) (Nat.lt_of_sub_eq_succ rfl) rfl rfl ?_
  refine oW.iload (pc' := 225) K at_223 rfl rfl ?_
  refine oW.iconst (v := (1 : Int32)) (pc' := 226) K at_225 (by decide) rfl ?_
  refine oW.icmp_le (pc' := 247) (pc3 := 229) K at_226 (by decide) (by decide) rfl (fun q => absurd q (by decide)) (fun _ => ?_)
  refine oW.aload (pc' := 231) K at_229 rfl rfl rfl ?_
  refine oW.iconst (v := (1 : Int32)) (pc' := 232) K at_231 (by decide) rfl ?_
  refine oW.lload (pc' := 234) K at_232 rfl rfl ?_
  obtain ⟨v234, ev234⟩ : ∃ t_ : UInt64, t_ = FP.l2d v73 := ⟨_, rfl⟩
  have qv234 : oQ (u1) 0 v234 := oQ.int (hu1 ▸ oL2D ev234 (by have h1 := hu1; omega))
  refine oW.l2d (pc' := 235) K at_234 ev234 rfl ?_
  refine oW.dastore (i := 0) (k := 1) (ds' := [(a195, .inl (.double, [(.double v210), (.double v234)])), (a201, .inl (.double, [(.double v221), (.double (0 : UInt64))]))]) (pc' := 236) K at_235 rfl rfl (by decide) (Nat.lt_of_sub_eq_succ rfl) rfl rfl ?_
  refine oW.aload (pc' := 238) K at_236 rfl rfl rfl ?_
  refine oW.iconst (v := (1 : Int32)) (pc' := 239) K at_238 (by decide) rfl ?_
  refine oW.iload (pc' := 241) K at_239 rfl rfl ?_
  obtain ⟨v241, ev241⟩ : ∃ t_ : UInt64, t_ = FP.i2d v127 := ⟨_, rfl⟩
  have qv241 : oQ (q1) 0 v241 := oQ.int (hq1 ▸ oI2D ev241)
  refine oW.i2d (pc' := 242) K at_241 ev241 rfl ?_
  refine oW.ldc2D (pc' := 245) K (hw _ (List.mem_of_getElem? (i := 3) rfl)) at_242 rfl ?_
  obtain ⟨v245, ev245⟩ : ∃ t_ : UInt64, t_ = FP.ddiv v241 (4629700416936869888 : UInt64) := ⟨_, rfl⟩
  have qv245 : oQ (q1) 5 v245 := qv241.divx (oQ.int (oDK 32 (by decide +kernel) (by decide))) ev245 _ 5 (by decide) (by decide) (by decide) (by decide) (by omega) (by show q1 * 1 * 32 = q1 * (32 * 1); omega)
  refine oW.ddiv (pc' := 246) K at_245 ev245 (qv245.nn) rfl ?_
  refine oW.dastore (i := 1) (k := 1) (ds' := [(a195, .inl (.double, [(.double v210), (.double v234)])), (a201, .inl (.double, [(.double v221), (.double v245)]))]) (pc' := 247) K at_246 rfl rfl (by decide) (Nat.lt_of_sub_eq_succ rfl) rfl rfl ?_
  refine oW.iload (pc' := 249) K at_247 rfl rfl ?_
  refine oW.iconst (v := (2 : Int32)) (pc' := 250) K at_249 (by decide) rfl ?_
  refine oW.icmp_le (pc' := 271) (pc3 := 253) K at_250 (by decide) (by decide) rfl (fun _ => ?_) (fun q => absurd q (by decide))
  refine oW.iload (pc' := 273) K at_271 rfl rfl ?_
  refine oW.iconst (v := (3 : Int32)) (pc' := 274) K at_273 (by decide) rfl ?_
  refine oW.icmp_le (pc' := 295) (pc3 := 277) K at_274 (by decide) (by decide) rfl (fun _ => ?_) (fun q => absurd q (by decide))
  refine oW.aload (pc' := 297) K at_295 rfl rfl rfl ?_
  refine oW.aload (pc' := 299) K at_297 rfl rfl rfl ?_
  have hRl : u1 * 8 = R1 := by rw [← hR1, hT1]; simp
  refine oW.callS (argsL := [(.ref a195), (.ref a201)]) (S := []) (rm := ({ frames := 2, cells := 5, slots := 20, locals := 60 } : Room)) (W := 0) (cells' := 7) (slots' := 24) (pc' := 302) K (hw _ (List.mem_of_getElem? (i := 4) rfl)) (hw _ (List.mem_of_getElem? (i := 5) rfl)) (hw _ (List.mem_of_getElem? (i := 6) rfl)) (hw _ (List.mem_of_getElem? (i := 7) rfl)) (by decide) (own_ir2 hw qv210 qv221 (by omega) (by omega) (by omega) qv234 qv245 (by omega) (by omega) (by omega) (by omega) (by omega) (by omega) hqc0 (by omega) (by omega) hR0 (by omega) hRl) (lenOf pd_2 rfl) at_299 rfl rfl (Nat.le_of_eq rfl) (by decide) (by decide) (by decide) (by decide) rfl rfl rfl ?_
  rintro _ _ ⟨a2, a3, a4, a5, a6, l2, l3, l4, l5, v0, v1, rfl, rfl, ⟨q0v, q1v⟩⟩
  refine oW.astore (Ls' := #[.val (.int p0), .val (.int p1), .val (.int p2), .val (.int p3), .val (.int p4), .val (.long (1099511627776 : Int64)), .second, .val (.int (2 : Int32)), .val (.int v18), .val (.int v26), .val (.int v35), .val (.long v44), .second, .val (.long v53), .second, .val (.long v62), .second, .val (.long v66), .second, .val (.long v73), .second, .val (.long v80), .second, .val (.long v87), .second, .val (.int v104), .val (.int v127), .val (.int (0 : Int32)), .val (.int (0 : Int32)), .val (.ref a195), .val (.ref a201), .val (.ref a6), .unset, .unset, .unset, .unset, .unset, .unset, .unset, .unset, .unset, .unset, .unset, .unset, .unset, .unset, .unset, .unset, .unset, .unset, .unset, .unset, .unset, .unset, .unset, .unset, .unset, .unset, .unset, .unset, .unset]) (pc' := 304) K at_302 rfl rfl rfl ?_
  refine oW.aload (pc' := 306) K at_304 rfl rfl rfl ?_
  refine oW.alen (i := 6) (v := (2 : Int32)) (pc' := 307) K at_306 rfl rfl rfl ?_
  refine oW.iload (pc' := 309) K at_307 rfl rfl ?_
  refine oW.icmp_eq (pc' := 314) (pc3 := 312) K at_309 (by decide) (by decide) rfl (fun _ => ?_) (fun q => absurd q (by decide))
  refine oW.ldc2L (pc' := 317) K (hw _ (List.mem_of_getElem? (i := 16) rfl)) at_314 rfl ?_
  refine oW.lload (pc' := 319) K at_317 rfl rfl ?_
  obtain ⟨v319, ev319⟩ : ∃ t_ : Int64, t_ = (8 : Int64) * v66 := ⟨_, rfl⟩
  refine oW.lmul (pc' := 320) K at_319 ev319 rfl ?_
  have tv319 : v319.toInt = 8 * u0 := (oLmul ev319 (by rw [(by decide : ((8 : Int64)).toInt = 8), hu0]; omega)).trans (by rw [(by decide : ((8 : Int64)).toInt = 8), hu0])
  refine oW.lload (pc' := 322) K at_320 rfl rfl ?_
  refine oW.iload (pc' := 324) K at_322 rfl rfl ?_
  refine oW.iload (pc' := 326) K at_324 rfl rfl ?_
  obtain ⟨v326, ev326⟩ : ∃ t_ : Int32, t_ = v127 + (0 : Int32) := ⟨_, rfl⟩
  refine oW.iadd (pc' := 327) K at_326 ev326 rfl ?_
  have tv326 : v326.toInt = q1 + 0 := by have h1 := (hq1 : v127.toInt = _); have h2 := ((by decide : ((0 : Int32)).toInt = 0) : ((0 : Int32)).toInt = _); have h := oIadd ev326 (by omega); omega
  refine oW.iload (pc' := 329) K at_327 rfl rfl ?_
  obtain ⟨v329, ev329⟩ : ∃ t_ : Int32, t_ = v326 + (0 : Int32) := ⟨_, rfl⟩
  refine oW.iadd (pc' := 330) K at_329 ev329 rfl ?_
  have tv329 : v329.toInt = T0 := by have h1 := (tv326 : v326.toInt = _); have h2 := ((by decide : ((0 : Int32)).toInt = 0) : ((0 : Int32)).toInt = _); have h := oIadd ev329 (by omega); omega
  obtain ⟨v330, ev330⟩ : ∃ t_ : Int64, t_ = v329.toInt64 := ⟨_, rfl⟩
  refine oW.i2l (pc' := 331) K at_330 ev330 rfl ?_
  have tv330 : v330.toInt = T0 := (oI2L ev330).trans tv329
  obtain ⟨v331, ev331⟩ : ∃ t_ : Int64, t_ = v44 * v330 := ⟨_, rfl⟩
  refine oW.lmul (pc' := 332) K at_331 ev331 rfl ?_
  have tv331 : v331.toInt = g1 * T0 := (oLmul ev331 (by rw [hg1, tv330]; omega)).trans (by rw [hg1, tv330])
  refine oW.bipush (v := (8 : Int32)) (pc' := 334) K at_332 (by decide) rfl ?_
  refine oW.iload (pc' := 336) K at_334 rfl rfl ?_
  obtain ⟨v336, ev336⟩ : ∃ t_ : Int32, t_ = (8 : Int32) >>> (v18 &&& 31) := ⟨_, rfl⟩
  refine oW.ishr (pc' := 337) K at_336 ev336 rfl ?_
  have tv336 : v336.toInt = c0 := (oShr8 hE0 bE0 ev336).trans hy0
  obtain ⟨v337, ev337⟩ : ∃ t_ : Int64, t_ = v336.toInt64 := ⟨_, rfl⟩
  refine oW.i2l (pc' := 338) K at_337 ev337 rfl ?_
  have tv337 : v337.toInt = c0 := (oI2L ev337).trans tv336
  obtain ⟨v338, ev338⟩ : ∃ t_ : Int64, t_ = v331 * v337 := ⟨_, rfl⟩
  refine oW.lmul (pc' := 339) K at_338 ev338 rfl ?_
  have tv338 : v338.toInt = g1 * T0 * c0 := (oLmul ev338 (by rw [tv331, tv337]; omega)).trans (by rw [tv331, tv337])
  obtain ⟨v339, ev339⟩ : ∃ t_ : Int64, t_ = v319 - v338 := ⟨_, rfl⟩
  refine oW.lsub (pc' := 340) K at_339 ev339 rfl ?_
  have tv339 : v339.toInt = R0 := by have h1 := (tv319 : v319.toInt = _); have h2 := (tv338 : v338.toInt = _); have h := oLsub ev339 (by omega); omega
  refine oW.lstore (Ls' := #[.val (.int p0), .val (.int p1), .val (.int p2), .val (.int p3), .val (.int p4), .val (.long (1099511627776 : Int64)), .second, .val (.int (2 : Int32)), .val (.int v18), .val (.int v26), .val (.int v35), .val (.long v44), .second, .val (.long v53), .second, .val (.long v62), .second, .val (.long v66), .second, .val (.long v73), .second, .val (.long v80), .second, .val (.long v87), .second, .val (.int v104), .val (.int v127), .val (.int (0 : Int32)), .val (.int (0 : Int32)), .val (.ref a195), .val (.ref a201), .val (.ref a6), .val (.long v339), .second, .unset, .unset, .unset, .unset, .unset, .unset, .unset, .unset, .unset, .unset, .unset, .unset, .unset, .unset, .unset, .unset, .unset, .unset, .unset, .unset, .unset, .unset, .unset, .unset, .unset, .unset, .unset]) (pc' := 342) K at_340 rfl rfl ?_
  refine oW.iload (pc' := 344) K at_342 rfl rfl ?_
  refine oW.iconst (v := (1 : Int32)) (pc' := 345) K at_344 (by decide) rfl ?_
  refine oW.icmp_le (pc' := 374) (pc3 := 348) K at_345 (by decide) (by decide) rfl (fun q => absurd q (by decide)) (fun _ => ?_)
  refine oW.ldc2L (pc' := 351) K (hw _ (List.mem_of_getElem? (i := 16) rfl)) at_348 rfl ?_
  refine oW.lload (pc' := 353) K at_351 rfl rfl ?_
  obtain ⟨v353, ev353⟩ : ∃ t_ : Int64, t_ = (8 : Int64) * v73 := ⟨_, rfl⟩
  refine oW.lmul (pc' := 354) K at_353 ev353 rfl ?_
  have tv353 : v353.toInt = 8 * u1 := (oLmul ev353 (by rw [(by decide : ((8 : Int64)).toInt = 8), hu1]; omega)).trans (by rw [(by decide : ((8 : Int64)).toInt = 8), hu1])
  refine oW.lload (pc' := 356) K at_354 rfl rfl ?_
  refine oW.iload (pc' := 358) K at_356 rfl rfl ?_
  refine oW.iload (pc' := 360) K at_358 rfl rfl ?_
  refine oW.iadd (v := (0 : Int32)) (pc' := 361) K at_360 (by decide) rfl ?_
  refine oW.i2l (v := (0 : Int64)) (pc' := 362) K at_361 (by decide) rfl ?_
  obtain ⟨v362, ev362⟩ : ∃ t_ : Int64, t_ = v53 * (0 : Int64) := ⟨_, rfl⟩
  refine oW.lmul (pc' := 363) K at_362 ev362 rfl ?_
  have tv362 : v362.toInt = g2 * 0 := (oLmul ev362 (by rw [hg2, (by decide : ((0 : Int64)).toInt = 0)]; omega)).trans (by rw [hg2, (by decide : ((0 : Int64)).toInt = 0)])
  refine oW.bipush (v := (8 : Int32)) (pc' := 365) K at_363 (by decide) rfl ?_
  refine oW.iload (pc' := 367) K at_365 rfl rfl ?_
  obtain ⟨v367, ev367⟩ : ∃ t_ : Int32, t_ = (8 : Int32) >>> (v26 &&& 31) := ⟨_, rfl⟩
  refine oW.ishr (pc' := 368) K at_367 ev367 rfl ?_
  have tv367 : v367.toInt = c1 := (oShr8 hE1 bE1 ev367).trans hy1
  obtain ⟨v368, ev368⟩ : ∃ t_ : Int64, t_ = v367.toInt64 := ⟨_, rfl⟩
  refine oW.i2l (pc' := 369) K at_368 ev368 rfl ?_
  have tv368 : v368.toInt = c1 := (oI2L ev368).trans tv367
  obtain ⟨v369, ev369⟩ : ∃ t_ : Int64, t_ = v362 * v368 := ⟨_, rfl⟩
  refine oW.lmul (pc' := 370) K at_369 ev369 rfl ?_
  have tv369 : v369.toInt = g2 * 0 * c1 := (oLmul ev369 (by rw [tv362, tv368]; omega)).trans (by rw [tv362, tv368])
  obtain ⟨v370, ev370⟩ : ∃ t_ : Int64, t_ = v353 - v369 := ⟨_, rfl⟩
  refine oW.lsub (pc' := 371) K at_370 ev370 rfl ?_
  have tv370 : v370.toInt = R1 := by have h1 := (tv353 : v353.toInt = _); have h2 := (tv369 : v369.toInt = _); have h := oLsub ev370 (by omega); omega
  refine oW.goto (pc' := 376) K at_371 (by decide) (by decide) ?_
  refine oW.lstore (Ls' := #[.val (.int p0), .val (.int p1), .val (.int p2), .val (.int p3), .val (.int p4), .val (.long (1099511627776 : Int64)), .second, .val (.int (2 : Int32)), .val (.int v18), .val (.int v26), .val (.int v35), .val (.long v44), .second, .val (.long v53), .second, .val (.long v62), .second, .val (.long v66), .second, .val (.long v73), .second, .val (.long v80), .second, .val (.long v87), .second, .val (.int v104), .val (.int v127), .val (.int (0 : Int32)), .val (.int (0 : Int32)), .val (.ref a195), .val (.ref a201), .val (.ref a6), .val (.long v339), .second, .val (.long v370), .second, .unset, .unset, .unset, .unset, .unset, .unset, .unset, .unset, .unset, .unset, .unset, .unset, .unset, .unset, .unset, .unset, .unset, .unset, .unset, .unset, .unset, .unset, .unset, .unset, .unset]) (pc' := 378) K at_376 rfl rfl ?_
  refine oW.iload (pc' := 380) K at_378 rfl rfl ?_
  refine oW.iconst (v := (2 : Int32)) (pc' := 381) K at_380 (by decide) rfl ?_
  refine oW.icmp_le (pc' := 407) (pc3 := 384) K at_381 (by decide) (by decide) rfl (fun _ => ?_) (fun q => absurd q (by decide))
  refine oW.lload (pc' := 409) K at_407 rfl rfl ?_
  refine oW.lstore (Ls' := #[.val (.int p0), .val (.int p1), .val (.int p2), .val (.int p3), .val (.int p4), .val (.long (1099511627776 : Int64)), .second, .val (.int (2 : Int32)), .val (.int v18), .val (.int v26), .val (.int v35), .val (.long v44), .second, .val (.long v53), .second, .val (.long v62), .second, .val (.long v66), .second, .val (.long v73), .second, .val (.long v80), .second, .val (.long v87), .second, .val (.int v104), .val (.int v127), .val (.int (0 : Int32)), .val (.int (0 : Int32)), .val (.ref a195), .val (.ref a201), .val (.ref a6), .val (.long v339), .second, .val (.long v370), .second, .val (.long (1099511627776 : Int64)), .second, .unset, .unset, .unset, .unset, .unset, .unset, .unset, .unset, .unset, .unset, .unset, .unset, .unset, .unset, .unset, .unset, .unset, .unset, .unset, .unset, .unset, .unset, .unset]) (pc' := 411) K at_409 rfl rfl ?_
  refine oW.iload (pc' := 413) K at_411 rfl rfl ?_
  obtain ⟨v413, ev413⟩ : ∃ t_ : Int64, t_ = v104.toInt64 := ⟨_, rfl⟩
  refine oW.i2l (pc' := 414) K at_413 ev413 rfl ?_
  have tv413 : v413.toInt = q0 := (oI2L ev413).trans tv104
  refine oW.lstore (Ls' := #[.val (.int p0), .val (.int p1), .val (.int p2), .val (.int p3), .val (.int p4), .val (.long (1099511627776 : Int64)), .second, .val (.int (2 : Int32)), .val (.int v18), .val (.int v26), .val (.int v35), .val (.long v44), .second, .val (.long v53), .second, .val (.long v62), .second, .val (.long v66), .second, .val (.long v73), .second, .val (.long v80), .second, .val (.long v87), .second, .val (.int v104), .val (.int v127), .val (.int (0 : Int32)), .val (.int (0 : Int32)), .val (.ref a195), .val (.ref a201), .val (.ref a6), .val (.long v339), .second, .val (.long v370), .second, .val (.long (1099511627776 : Int64)), .second, .val (.long v413), .second, .unset, .unset, .unset, .unset, .unset, .unset, .unset, .unset, .unset, .unset, .unset, .unset, .unset, .unset, .unset, .unset, .unset, .unset, .unset, .unset, .unset]) (pc' := 416) K at_414 rfl rfl ?_
  refine oW.iload (pc' := 418) K at_416 rfl rfl ?_
  refine oW.iconst (v := (1 : Int32)) (pc' := 419) K at_418 (by decide) rfl ?_
  refine oW.icmp_le (pc' := 428) (pc3 := 422) K at_419 (by decide) (by decide) rfl (fun q => absurd q (by decide)) (fun _ => ?_)
  refine oW.iload (pc' := 424) K at_422 rfl rfl ?_
  obtain ⟨v424, ev424⟩ : ∃ t_ : Int64, t_ = v127.toInt64 := ⟨_, rfl⟩
  refine oW.i2l (pc' := 425) K at_424 ev424 rfl ?_
  have tv424 : v424.toInt = q1 := (oI2L ev424).trans hq1
  refine oW.goto (pc' := 429) K at_425 (by decide) (by decide) ?_
  refine oW.lstore (Ls' := #[.val (.int p0), .val (.int p1), .val (.int p2), .val (.int p3), .val (.int p4), .val (.long (1099511627776 : Int64)), .second, .val (.int (2 : Int32)), .val (.int v18), .val (.int v26), .val (.int v35), .val (.long v44), .second, .val (.long v53), .second, .val (.long v62), .second, .val (.long v66), .second, .val (.long v73), .second, .val (.long v80), .second, .val (.long v87), .second, .val (.int v104), .val (.int v127), .val (.int (0 : Int32)), .val (.int (0 : Int32)), .val (.ref a195), .val (.ref a201), .val (.ref a6), .val (.long v339), .second, .val (.long v370), .second, .val (.long (1099511627776 : Int64)), .second, .val (.long v413), .second, .val (.long v424), .second, .unset, .unset, .unset, .unset, .unset, .unset, .unset, .unset, .unset, .unset, .unset, .unset, .unset, .unset, .unset, .unset, .unset, .unset, .unset]) (pc' := 431) K at_429 rfl rfl ?_
  refine oW.iload (pc' := 433) K at_431 rfl rfl ?_
  refine oW.iconst (v := (2 : Int32)) (pc' := 434) K at_433 (by decide) rfl ?_
  refine oW.icmp_le (pc' := 443) (pc3 := 437) K at_434 (by decide) (by decide) rfl (fun _ => ?_) (fun q => absurd q (by decide))
  refine oW.lconst (v := (1 : Int64)) (pc' := 444) K at_443 (by decide) rfl ?_
  refine oW.lstore (Ls' := #[.val (.int p0), .val (.int p1), .val (.int p2), .val (.int p3), .val (.int p4), .val (.long (1099511627776 : Int64)), .second, .val (.int (2 : Int32)), .val (.int v18), .val (.int v26), .val (.int v35), .val (.long v44), .second, .val (.long v53), .second, .val (.long v62), .second, .val (.long v66), .second, .val (.long v73), .second, .val (.long v80), .second, .val (.long v87), .second, .val (.int v104), .val (.int v127), .val (.int (0 : Int32)), .val (.int (0 : Int32)), .val (.ref a195), .val (.ref a201), .val (.ref a6), .val (.long v339), .second, .val (.long v370), .second, .val (.long (1099511627776 : Int64)), .second, .val (.long v413), .second, .val (.long v424), .second, .val (.long (1 : Int64)), .second, .unset, .unset, .unset, .unset, .unset, .unset, .unset, .unset, .unset, .unset, .unset, .unset, .unset, .unset, .unset, .unset, .unset]) (pc' := 446) K at_444 rfl rfl ?_
  refine oW.lload (pc' := 448) K at_446 rfl rfl ?_
  refine oW.lstore (Ls' := #[.val (.int p0), .val (.int p1), .val (.int p2), .val (.int p3), .val (.int p4), .val (.long (1099511627776 : Int64)), .second, .val (.int (2 : Int32)), .val (.int v18), .val (.int v26), .val (.int v35), .val (.long v44), .second, .val (.long v53), .second, .val (.long v62), .second, .val (.long v66), .second, .val (.long v73), .second, .val (.long v80), .second, .val (.long v87), .second, .val (.int v104), .val (.int v127), .val (.int (0 : Int32)), .val (.int (0 : Int32)), .val (.ref a195), .val (.ref a201), .val (.ref a6), .val (.long v339), .second, .val (.long v370), .second, .val (.long (1099511627776 : Int64)), .second, .val (.long v413), .second, .val (.long v424), .second, .val (.long (1 : Int64)), .second, .val (.long v339), .second, .unset, .unset, .unset, .unset, .unset, .unset, .unset, .unset, .unset, .unset, .unset, .unset, .unset, .unset, .unset]) (pc' := 450) K at_448 rfl rfl ?_
  refine oW.ldc2L (pc' := 453) K (hw _ (List.mem_of_getElem? (i := 16) rfl)) at_450 rfl ?_
  refine oW.lstore (Ls' := #[.val (.int p0), .val (.int p1), .val (.int p2), .val (.int p3), .val (.int p4), .val (.long (1099511627776 : Int64)), .second, .val (.int (2 : Int32)), .val (.int v18), .val (.int v26), .val (.int v35), .val (.long v44), .second, .val (.long v53), .second, .val (.long v62), .second, .val (.long v66), .second, .val (.long v73), .second, .val (.long v80), .second, .val (.long v87), .second, .val (.int v104), .val (.int v127), .val (.int (0 : Int32)), .val (.int (0 : Int32)), .val (.ref a195), .val (.ref a201), .val (.ref a6), .val (.long v339), .second, .val (.long v370), .second, .val (.long (1099511627776 : Int64)), .second, .val (.long v413), .second, .val (.long v424), .second, .val (.long (1 : Int64)), .second, .val (.long v339), .second, .val (.long (8 : Int64)), .second, .unset, .unset, .unset, .unset, .unset, .unset, .unset, .unset, .unset, .unset, .unset, .unset, .unset]) (pc' := 455) K at_453 rfl rfl ?_
  refine oW.lload (pc' := 457) K at_455 rfl rfl ?_
  refine oW.lstore (Ls' := #[.val (.int p0), .val (.int p1), .val (.int p2), .val (.int p3), .val (.int p4), .val (.long (1099511627776 : Int64)), .second, .val (.int (2 : Int32)), .val (.int v18), .val (.int v26), .val (.int v35), .val (.long v44), .second, .val (.long v53), .second, .val (.long v62), .second, .val (.long v66), .second, .val (.long v73), .second, .val (.long v80), .second, .val (.long v87), .second, .val (.int v104), .val (.int v127), .val (.int (0 : Int32)), .val (.int (0 : Int32)), .val (.ref a195), .val (.ref a201), .val (.ref a6), .val (.long v339), .second, .val (.long v370), .second, .val (.long (1099511627776 : Int64)), .second, .val (.long v413), .second, .val (.long v424), .second, .val (.long (1 : Int64)), .second, .val (.long v339), .second, .val (.long (8 : Int64)), .second, .val (.long v370), .second, .unset, .unset, .unset, .unset, .unset, .unset, .unset, .unset, .unset, .unset, .unset]) (pc' := 459) K at_457 rfl rfl ?_
  refine oW.ldc2L (pc' := 462) K (hw _ (List.mem_of_getElem? (i := 16) rfl)) at_459 rfl ?_
  refine oW.lstore (Ls' := #[.val (.int p0), .val (.int p1), .val (.int p2), .val (.int p3), .val (.int p4), .val (.long (1099511627776 : Int64)), .second, .val (.int (2 : Int32)), .val (.int v18), .val (.int v26), .val (.int v35), .val (.long v44), .second, .val (.long v53), .second, .val (.long v62), .second, .val (.long v66), .second, .val (.long v73), .second, .val (.long v80), .second, .val (.long v87), .second, .val (.int v104), .val (.int v127), .val (.int (0 : Int32)), .val (.int (0 : Int32)), .val (.ref a195), .val (.ref a201), .val (.ref a6), .val (.long v339), .second, .val (.long v370), .second, .val (.long (1099511627776 : Int64)), .second, .val (.long v413), .second, .val (.long v424), .second, .val (.long (1 : Int64)), .second, .val (.long v339), .second, .val (.long (8 : Int64)), .second, .val (.long v370), .second, .val (.long (8 : Int64)), .second, .unset, .unset, .unset, .unset, .unset, .unset, .unset, .unset, .unset]) (pc' := 464) K at_462 rfl rfl ?_
  refine oW.lload (pc' := 466) K at_464 rfl rfl ?_
  refine oW.lstore (Ls' := #[.val (.int p0), .val (.int p1), .val (.int p2), .val (.int p3), .val (.int p4), .val (.long (1099511627776 : Int64)), .second, .val (.int (2 : Int32)), .val (.int v18), .val (.int v26), .val (.int v35), .val (.long v44), .second, .val (.long v53), .second, .val (.long v62), .second, .val (.long v66), .second, .val (.long v73), .second, .val (.long v80), .second, .val (.long v87), .second, .val (.int v104), .val (.int v127), .val (.int (0 : Int32)), .val (.int (0 : Int32)), .val (.ref a195), .val (.ref a201), .val (.ref a6), .val (.long v339), .second, .val (.long v370), .second, .val (.long (1099511627776 : Int64)), .second, .val (.long v413), .second, .val (.long v424), .second, .val (.long (1 : Int64)), .second, .val (.long v339), .second, .val (.long (8 : Int64)), .second, .val (.long v370), .second, .val (.long (8 : Int64)), .second, .val (.long (1099511627776 : Int64)), .second, .unset, .unset, .unset, .unset, .unset, .unset, .unset]) (pc' := 468) K at_466 rfl rfl ?_
  refine oW.ldc2L (pc' := 471) K (hw _ (List.mem_of_getElem? (i := 16) rfl)) at_468 rfl ?_
  refine oW.lstore (Ls' := #[.val (.int p0), .val (.int p1), .val (.int p2), .val (.int p3), .val (.int p4), .val (.long (1099511627776 : Int64)), .second, .val (.int (2 : Int32)), .val (.int v18), .val (.int v26), .val (.int v35), .val (.long v44), .second, .val (.long v53), .second, .val (.long v62), .second, .val (.long v66), .second, .val (.long v73), .second, .val (.long v80), .second, .val (.long v87), .second, .val (.int v104), .val (.int v127), .val (.int (0 : Int32)), .val (.int (0 : Int32)), .val (.ref a195), .val (.ref a201), .val (.ref a6), .val (.long v339), .second, .val (.long v370), .second, .val (.long (1099511627776 : Int64)), .second, .val (.long v413), .second, .val (.long v424), .second, .val (.long (1 : Int64)), .second, .val (.long v339), .second, .val (.long (8 : Int64)), .second, .val (.long v370), .second, .val (.long (8 : Int64)), .second, .val (.long (1099511627776 : Int64)), .second, .val (.long (8 : Int64)), .second, .unset, .unset, .unset, .unset, .unset]) (pc' := 473) K at_471 rfl rfl ?_
  refine oW.lload (pc' := 475) K at_473 rfl rfl ?_
  refine oW.lload (pc' := 477) K at_475 rfl rfl ?_
  obtain ⟨v477, ev477⟩ : ∃ t_ : Int64, t_ = v413 * v339 := ⟨_, rfl⟩
  refine oW.lmul (pc' := 478) K at_477 ev477 rfl ?_
  have tv477 : v477.toInt = q0 * R0 := (oLmul ev477 (by rw [tv413, tv339]; omega)).trans (by rw [tv413, tv339])
  refine oW.lload (pc' := 480) K at_478 rfl rfl ?_
  refine oW.lload (pc' := 482) K at_480 rfl rfl ?_
  obtain ⟨v482, ev482⟩ : ∃ t_ : Int64, t_ = v424 * v370 := ⟨_, rfl⟩
  refine oW.lmul (pc' := 483) K at_482 ev482 rfl ?_
  have tv482 : v482.toInt = q1 * R1 := (oLmul ev482 (by rw [tv424, tv370]; omega)).trans (by rw [tv424, tv370])
  obtain ⟨v483, ev483⟩ : ∃ t_ : Int64, t_ = v477 + v482 := ⟨_, rfl⟩
  refine oW.ladd (pc' := 484) K at_483 ev483 rfl ?_
  have tv483 : v483.toInt = q0 * R0 + q1 * R1 := by have h1 := (tv477 : v477.toInt = _); have h2 := (tv482 : v482.toInt = _); have h := oLadd ev483 (by omega); omega
  refine oW.lload (pc' := 486) K at_484 rfl rfl ?_
  refine oW.lload (pc' := 488) K at_486 rfl rfl ?_
  refine oW.lmul (v := (1099511627776 : Int64)) (pc' := 489) K at_488 (by decide) rfl ?_
  obtain ⟨v489, ev489⟩ : ∃ t_ : Int64, t_ = v483 + (1099511627776 : Int64) := ⟨_, rfl⟩
  refine oW.ladd (pc' := 490) K at_489 ev489 rfl ?_
  have tv489 : v489.toInt = q0 * R0 + q1 * R1 + 1099511627776 := by have h1 := (tv483 : v483.toInt = _); have h2 := ((by decide : ((1099511627776 : Int64)).toInt = 1099511627776) : ((1099511627776 : Int64)).toInt = _); have h := oLadd ev489 (by omega); omega
  refine oW.lstore (Ls' := #[.val (.int p0), .val (.int p1), .val (.int p2), .val (.int p3), .val (.int p4), .val (.long (1099511627776 : Int64)), .second, .val (.int (2 : Int32)), .val (.int v18), .val (.int v26), .val (.int v35), .val (.long v44), .second, .val (.long v53), .second, .val (.long v62), .second, .val (.long v66), .second, .val (.long v73), .second, .val (.long v80), .second, .val (.long v87), .second, .val (.int v104), .val (.int v127), .val (.int (0 : Int32)), .val (.int (0 : Int32)), .val (.ref a195), .val (.ref a201), .val (.ref a6), .val (.long v339), .second, .val (.long v370), .second, .val (.long (1099511627776 : Int64)), .second, .val (.long v413), .second, .val (.long v424), .second, .val (.long (1 : Int64)), .second, .val (.long v339), .second, .val (.long (8 : Int64)), .second, .val (.long v370), .second, .val (.long (8 : Int64)), .second, .val (.long (1099511627776 : Int64)), .second, .val (.long (8 : Int64)), .second, .val (.long v489), .second, .unset, .unset, .unset]) (pc' := 492) K at_490 rfl rfl ?_
  refine oW.ldc2L (pc' := 495) K (hw _ (List.mem_of_getElem? (i := 16) rfl)) at_492 rfl ?_
  refine oW.lload (pc' := 497) K at_495 rfl rfl ?_
  refine oW.lload (pc' := 499) K at_497 rfl rfl ?_
  obtain ⟨v499, ev499⟩ : ∃ t_ : Int64, t_ = v413 + v424 := ⟨_, rfl⟩
  refine oW.ladd (pc' := 500) K at_499 ev499 rfl ?_
  have tv499 : v499.toInt = q0 + q1 := by have h1 := (tv413 : v413.toInt = _); have h2 := (tv424 : v424.toInt = _); have h := oLadd ev499 (by omega); omega
  refine oW.lload (pc' := 502) K at_500 rfl rfl ?_
  obtain ⟨v502, ev502⟩ : ∃ t_ : Int64, t_ = v499 + (1 : Int64) := ⟨_, rfl⟩
  refine oW.ladd (pc' := 503) K at_502 ev502 rfl ?_
  have tv502 : v502.toInt = q0 + q1 + 1 := by have h1 := (tv499 : v499.toInt = _); have h2 := ((by decide : ((1 : Int64)).toInt = 1) : ((1 : Int64)).toInt = _); have h := oLadd ev502 (by omega); omega
  obtain ⟨v503, ev503⟩ : ∃ t_ : Int64, t_ = (8 : Int64) * v502 := ⟨_, rfl⟩
  refine oW.lmul (pc' := 504) K at_503 ev503 rfl ?_
  have tv503 : v503.toInt = 8 * (q0 + q1 + 1) := (oLmul ev503 (by rw [(by decide : ((8 : Int64)).toInt = 8), tv502]; omega)).trans (by rw [(by decide : ((8 : Int64)).toInt = 8), tv502])
  refine oW.lstore (Ls' := #[.val (.int p0), .val (.int p1), .val (.int p2), .val (.int p3), .val (.int p4), .val (.long (1099511627776 : Int64)), .second, .val (.int (2 : Int32)), .val (.int v18), .val (.int v26), .val (.int v35), .val (.long v44), .second, .val (.long v53), .second, .val (.long v62), .second, .val (.long v66), .second, .val (.long v73), .second, .val (.long v80), .second, .val (.long v87), .second, .val (.int v104), .val (.int v127), .val (.int (0 : Int32)), .val (.int (0 : Int32)), .val (.ref a195), .val (.ref a201), .val (.ref a6), .val (.long v339), .second, .val (.long v370), .second, .val (.long (1099511627776 : Int64)), .second, .val (.long v413), .second, .val (.long v424), .second, .val (.long (1 : Int64)), .second, .val (.long v339), .second, .val (.long (8 : Int64)), .second, .val (.long v370), .second, .val (.long (8 : Int64)), .second, .val (.long (1099511627776 : Int64)), .second, .val (.long (8 : Int64)), .second, .val (.long v489), .second, .val (.long v503), .second, .unset]) (pc' := 506) K at_504 rfl rfl ?_
  try clear tv9
  try clear tv18
  try clear tv26
  try clear tv35
  try clear tv41
  try clear tv42
  try clear tv44
  try clear tv50
  try clear tv51
  try clear tv53
  try clear tv59
  try clear tv60
  try clear tv62
  try clear tv66
  try clear tv73
  try clear tv80
  try clear tv87
  try clear tv104
  try clear tv127
  try clear tv319
  try clear tv326
  try clear tv329
  try clear tv330
  try clear tv331
  try clear tv336
  try clear tv337
  try clear tv338
  try clear tv353
  try clear tv362
  try clear tv367
  try clear tv368
  try clear tv369
  try clear tv477
  try clear tv482
  try clear tv483
  try clear tv499
  try clear tv502
  have bR0 : -68719476736 ≤ R0 ∧ R0 ≤ 68719476736 := by omega
  have bR1 : -68719476736 ≤ R1 ∧ R1 ≤ 68719476736 := by omega
  have hm1' : R0 ≤ R1 := by omega
  try clear hP0
  try clear hP1
  try clear hP2
  try clear hPc0
  try clear hPc1
  try clear hPc2
  try clear hR0
  try clear hR1
  try clear hR2
  try clear hT0
  try clear hT1
  try clear hT2
  try clear bg1
  try clear bg2
  try clear bg3
  try clear du0
  try clear du1
  try clear du2
  try clear bc0
  try clear bc1
  try clear bc2
  try clear hqc0
  try clear hqc1
  try clear hqc2
  try clear hx0
  try clear hx1
  try clear hx2
  try clear hy0
  try clear hy1
  try clear hy2
  try clear bu0
  try clear bu1
  try clear bu2
  try clear hg1
  try clear hg2
  try clear hg3
  try clear hu0
  try clear hu1
  try clear hu2
  try clear hE0
  try clear hE1
  try clear hE2
  try clear bE0
  try clear bE1
  try clear bE2
  refine oW.lload (pc' := 508) K at_506 rfl rfl ?_
  refine oW.lload (pc' := 510) K at_508 rfl rfl ?_
  obtain ⟨v510, ev510⟩ : ∃ t_ : Int32, t_ = XT.cmpL v339 v370 := ⟨_, rfl⟩
  refine oW.lcmp (pc' := 511) K at_510 ev510 rfl ?_
  refine oW.if_gt (pc' := 607) (pc3 := 514) K at_511 (by decide) (by decide) rfl (fun q => absurd ((oLcmp ev510).2.2.mp q) (by have := (tv339 : v339.toInt = _); have := (tv370 : v370.toInt = _); omega)) (fun c511 => ?_)
  refine oW.lload (pc' := 516) K at_514 rfl rfl ?_
  refine oW.lload (pc' := 518) K at_516 rfl rfl ?_
  obtain ⟨v518, ev518⟩ : ∃ t_ : Int32, t_ = XT.cmpL v370 (1099511627776 : Int64) := ⟨_, rfl⟩
  refine oW.lcmp (pc' := 519) K at_518 ev518 rfl ?_
  refine oW.if_le (pc' := 689) (pc3 := 522) K at_519 (by decide) (by decide) rfl (fun c519 => ?_) (fun q => absurd ((oLcmp ev518).2.2.mp q) (by have := (tv370 : v370.toInt = _); have := ((by decide : ((1099511627776 : Int64)).toInt = 1099511627776) : ((1099511627776 : Int64)).toInt = _); omega))
  refine oW.aload (pc' := 691) K at_689 rfl rfl rfl ?_
  refine oW.iconst (v := (0 : Int32)) (pc' := 692) K at_691 (by decide) rfl ?_
  refine oW.daload (i := 6) (k := 0) (pc' := 693) K at_692 rfl rfl (by decide) rfl rfl ?_
  refine oW.lload (pc' := 695) K at_693 rfl rfl ?_
  refine oW.lload (pc' := 697) K at_695 rfl rfl ?_
  refine oW.callS (argsL := [(.double v0), (.long v339), (.long (8 : Int64))]) (S := []) (rm := ({ frames := 0, cells := 0, slots := 0, locals := 0 } : Room)) (W := 0) (cells' := 7) (slots' := 24) (pc' := 700) K (hw _ (List.mem_of_getElem? (i := 17) rfl)) (hw _ (List.mem_of_getElem? (i := 18) rfl)) (hw _ (List.mem_of_getElem? (i := 19) rfl)) (hw _ (List.mem_of_getElem? (i := 20) rfl)) (by decide) (own_sameQ hw q0v (tv339) ((by decide : ((8 : Int64)).toInt = 8)) (by omega)) (lenOf pd_3 rfl) at_697 rfl rfl (Nat.le_of_eq rfl) (by decide) (by decide) (by decide) (by decide) rfl rfl rfl ?_
  rintro _ _ ⟨rfl, rfl⟩
  refine oW.istore (Ls' := #[.val (.int p0), .val (.int p1), .val (.int p2), .val (.int p3), .val (.int p4), .val (.long (1099511627776 : Int64)), .second, .val (.int (2 : Int32)), .val (.int v18), .val (.int v26), .val (.int v35), .val (.long v44), .second, .val (.long v53), .second, .val (.long v62), .second, .val (.long v66), .second, .val (.long v73), .second, .val (.long v80), .second, .val (.long v87), .second, .val (.int v104), .val (.int v127), .val (.int (0 : Int32)), .val (.int (0 : Int32)), .val (.ref a195), .val (.ref a201), .val (.ref a6), .val (.long v339), .second, .val (.long v370), .second, .val (.long (1099511627776 : Int64)), .second, .val (.long v413), .second, .val (.long v424), .second, .val (.long (1 : Int64)), .second, .val (.long v339), .second, .val (.long (8 : Int64)), .second, .val (.long v370), .second, .val (.long (8 : Int64)), .second, .val (.long (1099511627776 : Int64)), .second, .val (.long (8 : Int64)), .second, .val (.long v489), .second, .val (.long v503), .second, .val (.int (1 : Int32))]) (pc' := 702) K at_700 rfl rfl ?_
  refine oW.iload (pc' := 704) K at_702 rfl rfl ?_
  refine oW.iconst (v := (1 : Int32)) (pc' := 705) K at_704 (by decide) rfl ?_
  refine oW.icmp_le (pc' := 734) (pc3 := 708) K at_705 (by decide) (by decide) rfl (fun q => absurd q (by decide)) (fun _ => ?_)
  refine oW.iload (pc' := 710) K at_708 rfl rfl ?_
  refine oW.if_eq (pc' := 731) (pc3 := 713) K at_710 (by decide) (by decide) rfl (fun q => absurd q (by decide)) (fun _ => ?_)
  refine oW.aload (pc' := 715) K at_713 rfl rfl rfl ?_
  refine oW.iconst (v := (1 : Int32)) (pc' := 716) K at_715 (by decide) rfl ?_
  refine oW.daload (i := 6) (k := 1) (pc' := 717) K at_716 rfl rfl (by decide) rfl rfl ?_
  refine oW.lload (pc' := 719) K at_717 rfl rfl ?_
  refine oW.lload (pc' := 721) K at_719 rfl rfl ?_
  refine oW.callS (argsL := [(.double v1), (.long v370), (.long (8 : Int64))]) (S := []) (rm := ({ frames := 0, cells := 0, slots := 0, locals := 0 } : Room)) (W := 0) (cells' := 7) (slots' := 24) (pc' := 724) K (hw _ (List.mem_of_getElem? (i := 17) rfl)) (hw _ (List.mem_of_getElem? (i := 18) rfl)) (hw _ (List.mem_of_getElem? (i := 19) rfl)) (hw _ (List.mem_of_getElem? (i := 20) rfl)) (by decide) (own_sameQ hw q1v (tv370) ((by decide : ((8 : Int64)).toInt = 8)) (by omega)) (lenOf pd_3 rfl) at_721 rfl rfl (Nat.le_of_eq rfl) (by decide) (by decide) (by decide) (by decide) rfl rfl rfl ?_
  rintro _ _ ⟨rfl, rfl⟩
  refine oW.if_eq (pc' := 731) (pc3 := 727) K at_724 (by decide) (by decide) rfl (fun q => absurd q (by decide)) (fun _ => ?_)
  refine oW.iconst (v := (1 : Int32)) (pc' := 728) K at_727 (by decide) rfl ?_
  refine oW.goto (pc' := 732) K at_728 (by decide) (by decide) ?_
  refine oW.istore (Ls' := #[.val (.int p0), .val (.int p1), .val (.int p2), .val (.int p3), .val (.int p4), .val (.long (1099511627776 : Int64)), .second, .val (.int (2 : Int32)), .val (.int v18), .val (.int v26), .val (.int v35), .val (.long v44), .second, .val (.long v53), .second, .val (.long v62), .second, .val (.long v66), .second, .val (.long v73), .second, .val (.long v80), .second, .val (.long v87), .second, .val (.int v104), .val (.int v127), .val (.int (0 : Int32)), .val (.int (0 : Int32)), .val (.ref a195), .val (.ref a201), .val (.ref a6), .val (.long v339), .second, .val (.long v370), .second, .val (.long (1099511627776 : Int64)), .second, .val (.long v413), .second, .val (.long v424), .second, .val (.long (1 : Int64)), .second, .val (.long v339), .second, .val (.long (8 : Int64)), .second, .val (.long v370), .second, .val (.long (8 : Int64)), .second, .val (.long (1099511627776 : Int64)), .second, .val (.long (8 : Int64)), .second, .val (.long v489), .second, .val (.long v503), .second, .val (.int (1 : Int32))]) (pc' := 734) K at_732 rfl rfl ?_
  refine oW.iload (pc' := 736) K at_734 rfl rfl ?_
  refine oW.iconst (v := (2 : Int32)) (pc' := 737) K at_736 (by decide) rfl ?_
  refine oW.icmp_le (pc' := 766) (pc3 := 740) K at_737 (by decide) (by decide) rfl (fun _ => ?_) (fun q => absurd q (by decide))
  refine oW.iload (pc' := 768) K at_766 rfl rfl ?_
  refine oW.iconst (v := (3 : Int32)) (pc' := 769) K at_768 (by decide) rfl ?_
  refine oW.icmp_le (pc' := 795) (pc3 := 772) K at_769 (by decide) (by decide) rfl (fun _ => ?_) (fun q => absurd q (by decide))
  refine oW.iload (pc' := 797) K at_795 rfl rfl ?_
  exact oW.retB K rfl at_797 (by decide) (by decide) ⟨_, rfl, rfl⟩
set_option maxRecDepth 65536 in
set_option maxHeartbeats 40000000 in
theorem own_law_3 {l : Launch} {Z : State} {a0 : Array Value} {h0 : Heap} (hw : ∀ d ∈ tables_1, d.before a0 Z = true) (p0 : Int32) (p1 : Int32) (p2 : Int32) (p3 : Int32) (p4 : Int32) {p : Program} {e : Env} {s : State} {m : MethodId} {below : List Frame} {meth : Method} {c : Code} (K : oK p s m meth c Z x.cls code maxLocals ret x.name) :
    oW p l e room_1 s m #[(.int p0), (.int p1), (.int p2), (.int p3), (.int p4)] below meth c Z h0 (oVal fun w _ => w = .int 1) [] 0 0 10 #[.val (.int p0), .val (.int p1), .val (.int p2), .val (.int p3), .val (.int p4), .val (.long (1099511627776 : Int64)), .second, .unset, .unset, .unset, .unset, .unset, .unset, .unset, .unset, .unset, .unset, .unset, .unset, .unset, .unset, .unset, .unset, .unset, .unset, .unset, .unset, .unset, .unset, .unset, .unset, .unset, .unset, .unset, .unset, .unset, .unset, .unset, .unset, .unset, .unset, .unset, .unset, .unset, .unset, .unset, .unset, .unset, .unset, .unset, .unset, .unset, .unset, .unset, .unset, .unset, .unset, .unset, .unset, .unset, .unset] [(.int (2 : Int32)), (.int (1 : Int32))] := by
  refine oW.iadd (v := (3 : Int32)) (pc' := 11) K at_10 (by decide) rfl ?_
  refine oW.istore (Ls' := #[.val (.int p0), .val (.int p1), .val (.int p2), .val (.int p3), .val (.int p4), .val (.long (1099511627776 : Int64)), .second, .val (.int (3 : Int32)), .unset, .unset, .unset, .unset, .unset, .unset, .unset, .unset, .unset, .unset, .unset, .unset, .unset, .unset, .unset, .unset, .unset, .unset, .unset, .unset, .unset, .unset, .unset, .unset, .unset, .unset, .unset, .unset, .unset, .unset, .unset, .unset, .unset, .unset, .unset, .unset, .unset, .unset, .unset, .unset, .unset, .unset, .unset, .unset, .unset, .unset, .unset, .unset, .unset, .unset, .unset, .unset, .unset]) (pc' := 13) K at_11 rfl rfl ?_
  refine oW.iload (pc' := 15) K at_13 rfl rfl ?_
  refine oW.iconst (v := (2 : Int32)) (pc' := 16) K at_15 (by decide) rfl ?_
  obtain ⟨v16, ev16⟩ : ∃ t_ : Int32, t_ = XT.ushr p4 (2 : Int32) := ⟨_, rfl⟩
  refine oW.iushr (pc' := 17) K at_16 ev16 rfl ?_
  refine oW.iconst (v := (3 : Int32)) (pc' := 18) K at_17 (by decide) rfl ?_
  obtain ⟨v18, ev18⟩ : ∃ t_ : Int32, t_ = v16 &&& (3 : Int32) := ⟨_, rfl⟩
  refine oW.iand (pc' := 19) K at_18 ev18 rfl ?_
  have tv18 := oMaskR 3 (by decide) ev18
  refine oW.istore (Ls' := #[.val (.int p0), .val (.int p1), .val (.int p2), .val (.int p3), .val (.int p4), .val (.long (1099511627776 : Int64)), .second, .val (.int (3 : Int32)), .val (.int v18), .unset, .unset, .unset, .unset, .unset, .unset, .unset, .unset, .unset, .unset, .unset, .unset, .unset, .unset, .unset, .unset, .unset, .unset, .unset, .unset, .unset, .unset, .unset, .unset, .unset, .unset, .unset, .unset, .unset, .unset, .unset, .unset, .unset, .unset, .unset, .unset, .unset, .unset, .unset, .unset, .unset, .unset, .unset, .unset, .unset, .unset, .unset, .unset, .unset, .unset, .unset, .unset]) (pc' := 21) K at_19 rfl rfl ?_
  refine oW.iload (pc' := 23) K at_21 rfl rfl ?_
  refine oW.iconst (v := (4 : Int32)) (pc' := 24) K at_23 (by decide) rfl ?_
  obtain ⟨v24, ev24⟩ : ∃ t_ : Int32, t_ = XT.ushr p4 (4 : Int32) := ⟨_, rfl⟩
  refine oW.iushr (pc' := 25) K at_24 ev24 rfl ?_
  refine oW.iconst (v := (3 : Int32)) (pc' := 26) K at_25 (by decide) rfl ?_
  obtain ⟨v26, ev26⟩ : ∃ t_ : Int32, t_ = v24 &&& (3 : Int32) := ⟨_, rfl⟩
  refine oW.iand (pc' := 27) K at_26 ev26 rfl ?_
  have tv26 := oMaskR 3 (by decide) ev26
  refine oW.istore (Ls' := #[.val (.int p0), .val (.int p1), .val (.int p2), .val (.int p3), .val (.int p4), .val (.long (1099511627776 : Int64)), .second, .val (.int (3 : Int32)), .val (.int v18), .val (.int v26), .unset, .unset, .unset, .unset, .unset, .unset, .unset, .unset, .unset, .unset, .unset, .unset, .unset, .unset, .unset, .unset, .unset, .unset, .unset, .unset, .unset, .unset, .unset, .unset, .unset, .unset, .unset, .unset, .unset, .unset, .unset, .unset, .unset, .unset, .unset, .unset, .unset, .unset, .unset, .unset, .unset, .unset, .unset, .unset, .unset, .unset, .unset, .unset, .unset, .unset, .unset]) (pc' := 29) K at_27 rfl rfl ?_
  refine oW.iload (pc' := 31) K at_29 rfl rfl ?_
  refine oW.bipush (v := (6 : Int32)) (pc' := 33) K at_31 (by decide) rfl ?_
  obtain ⟨v33, ev33⟩ : ∃ t_ : Int32, t_ = XT.ushr p4 (6 : Int32) := ⟨_, rfl⟩
  refine oW.iushr (pc' := 34) K at_33 ev33 rfl ?_
  refine oW.iconst (v := (3 : Int32)) (pc' := 35) K at_34 (by decide) rfl ?_
  obtain ⟨v35, ev35⟩ : ∃ t_ : Int32, t_ = v33 &&& (3 : Int32) := ⟨_, rfl⟩
  refine oW.iand (pc' := 36) K at_35 ev35 rfl ?_
  have tv35 := oMaskR 3 (by decide) ev35
  refine oW.istore (Ls' := #[.val (.int p0), .val (.int p1), .val (.int p2), .val (.int p3), .val (.int p4), .val (.long (1099511627776 : Int64)), .second, .val (.int (3 : Int32)), .val (.int v18), .val (.int v26), .val (.int v35), .unset, .unset, .unset, .unset, .unset, .unset, .unset, .unset, .unset, .unset, .unset, .unset, .unset, .unset, .unset, .unset, .unset, .unset, .unset, .unset, .unset, .unset, .unset, .unset, .unset, .unset, .unset, .unset, .unset, .unset, .unset, .unset, .unset, .unset, .unset, .unset, .unset, .unset, .unset, .unset, .unset, .unset, .unset, .unset, .unset, .unset, .unset, .unset, .unset, .unset]) (pc' := 38) K at_36 rfl rfl ?_
  have b32 := oB32 p0
  obtain ⟨E0, hE0⟩ : ∃ n : Nat, v18.toInt = (n : Int) := ⟨v18.toInt.toNat, by omega⟩
  have bE0 : E0 ≤ 3 := by omega
  obtain ⟨q0, c0, hx0, hy0, hqc0, bq0, bc0⟩ := oPw bE0
  obtain ⟨E1, hE1⟩ : ∃ n : Nat, v26.toInt = (n : Int) := ⟨v26.toInt.toNat, by omega⟩
  have bE1 : E1 ≤ 3 := by omega
  obtain ⟨q1, c1, hx1, hy1, hqc1, bq1, bc1⟩ := oPw bE1
  obtain ⟨E2, hE2⟩ : ∃ n : Nat, v35.toInt = (n : Int) := ⟨v35.toInt.toNat, by omega⟩
  have bE2 : E2 ≤ 3 := by omega
  obtain ⟨x2, c2, hx2, hy2, hqc2, bq2, bc2⟩ := oPw bE2
  refine oW.iloadN (pc' := 39) K at_38 rfl rfl ?_
  refine oW.ldcI (pc' := 41) K (hw _ (List.mem_of_getElem? (i := 1) rfl)) at_39 rfl ?_
  obtain ⟨v41, ev41⟩ : ∃ t_ : Int32, t_ = p1 &&& (1048575 : Int32) := ⟨_, rfl⟩
  refine oW.iand (pc' := 42) K at_41 ev41 rfl ?_
  have tv41 := oMaskR 1048575 (by decide) ev41
  obtain ⟨v42, ev42⟩ : ∃ t_ : Int64, t_ = v41.toInt64 := ⟨_, rfl⟩
  refine oW.i2l (pc' := 43) K at_42 ev42 rfl ?_
  have tv42 : v42.toInt = v41.toInt := (oI2L ev42).trans rfl
  refine oW.lconst (v := (1 : Int64)) (pc' := 44) K at_43 (by decide) rfl ?_
  obtain ⟨v44, ev44⟩ : ∃ t_ : Int64, t_ = v42 + (1 : Int64) := ⟨_, rfl⟩
  refine oW.ladd (pc' := 45) K at_44 ev44 rfl ?_
  have tv44 : v44.toInt = v41.toInt + 1 := by have h1 := (tv42 : v42.toInt = _); have h2 := ((by decide : ((1 : Int64)).toInt = 1) : ((1 : Int64)).toInt = _); have h := oLadd ev44 (by omega); omega
  refine oW.lstore (Ls' := #[.val (.int p0), .val (.int p1), .val (.int p2), .val (.int p3), .val (.int p4), .val (.long (1099511627776 : Int64)), .second, .val (.int (3 : Int32)), .val (.int v18), .val (.int v26), .val (.int v35), .val (.long v44), .second, .unset, .unset, .unset, .unset, .unset, .unset, .unset, .unset, .unset, .unset, .unset, .unset, .unset, .unset, .unset, .unset, .unset, .unset, .unset, .unset, .unset, .unset, .unset, .unset, .unset, .unset, .unset, .unset, .unset, .unset, .unset, .unset, .unset, .unset, .unset, .unset, .unset, .unset, .unset, .unset, .unset, .unset, .unset, .unset, .unset, .unset, .unset, .unset]) (pc' := 47) K at_45 rfl rfl ?_
  refine oW.iloadN (pc' := 48) K at_47 rfl rfl ?_
  refine oW.ldcI (pc' := 50) K (hw _ (List.mem_of_getElem? (i := 1) rfl)) at_48 rfl ?_
  obtain ⟨v50, ev50⟩ : ∃ t_ : Int32, t_ = p2 &&& (1048575 : Int32) := ⟨_, rfl⟩
  refine oW.iand (pc' := 51) K at_50 ev50 rfl ?_
  have tv50 := oMaskR 1048575 (by decide) ev50
  obtain ⟨v51, ev51⟩ : ∃ t_ : Int64, t_ = v50.toInt64 := ⟨_, rfl⟩
  refine oW.i2l (pc' := 52) K at_51 ev51 rfl ?_
  have tv51 : v51.toInt = v50.toInt := (oI2L ev51).trans rfl
  refine oW.lconst (v := (1 : Int64)) (pc' := 53) K at_52 (by decide) rfl ?_
  obtain ⟨v53, ev53⟩ : ∃ t_ : Int64, t_ = v51 + (1 : Int64) := ⟨_, rfl⟩
  refine oW.ladd (pc' := 54) K at_53 ev53 rfl ?_
  have tv53 : v53.toInt = v50.toInt + 1 := by have h1 := (tv51 : v51.toInt = _); have h2 := ((by decide : ((1 : Int64)).toInt = 1) : ((1 : Int64)).toInt = _); have h := oLadd ev53 (by omega); omega
  refine oW.lstore (Ls' := #[.val (.int p0), .val (.int p1), .val (.int p2), .val (.int p3), .val (.int p4), .val (.long (1099511627776 : Int64)), .second, .val (.int (3 : Int32)), .val (.int v18), .val (.int v26), .val (.int v35), .val (.long v44), .second, .val (.long v53), .second, .unset, .unset, .unset, .unset, .unset, .unset, .unset, .unset, .unset, .unset, .unset, .unset, .unset, .unset, .unset, .unset, .unset, .unset, .unset, .unset, .unset, .unset, .unset, .unset, .unset, .unset, .unset, .unset, .unset, .unset, .unset, .unset, .unset, .unset, .unset, .unset, .unset, .unset, .unset, .unset, .unset, .unset, .unset, .unset, .unset, .unset]) (pc' := 56) K at_54 rfl rfl ?_
  refine oW.iloadN (pc' := 57) K at_56 rfl rfl ?_
  refine oW.ldcI (pc' := 59) K (hw _ (List.mem_of_getElem? (i := 1) rfl)) at_57 rfl ?_
  obtain ⟨v59, ev59⟩ : ∃ t_ : Int32, t_ = p3 &&& (1048575 : Int32) := ⟨_, rfl⟩
  refine oW.iand (pc' := 60) K at_59 ev59 rfl ?_
  have tv59 := oMaskR 1048575 (by decide) ev59
  obtain ⟨v60, ev60⟩ : ∃ t_ : Int64, t_ = v59.toInt64 := ⟨_, rfl⟩
  refine oW.i2l (pc' := 61) K at_60 ev60 rfl ?_
  have tv60 : v60.toInt = v59.toInt := (oI2L ev60).trans rfl
  refine oW.lconst (v := (1 : Int64)) (pc' := 62) K at_61 (by decide) rfl ?_
  obtain ⟨v62, ev62⟩ : ∃ t_ : Int64, t_ = v60 + (1 : Int64) := ⟨_, rfl⟩
  refine oW.ladd (pc' := 63) K at_62 ev62 rfl ?_
  have tv62 : v62.toInt = v59.toInt + 1 := by have h1 := (tv60 : v60.toInt = _); have h2 := ((by decide : ((1 : Int64)).toInt = 1) : ((1 : Int64)).toInt = _); have h := oLadd ev62 (by omega); omega
  refine oW.lstore (Ls' := #[.val (.int p0), .val (.int p1), .val (.int p2), .val (.int p3), .val (.int p4), .val (.long (1099511627776 : Int64)), .second, .val (.int (3 : Int32)), .val (.int v18), .val (.int v26), .val (.int v35), .val (.long v44), .second, .val (.long v53), .second, .val (.long v62), .second, .unset, .unset, .unset, .unset, .unset, .unset, .unset, .unset, .unset, .unset, .unset, .unset, .unset, .unset, .unset, .unset, .unset, .unset, .unset, .unset, .unset, .unset, .unset, .unset, .unset, .unset, .unset, .unset, .unset, .unset, .unset, .unset, .unset, .unset, .unset, .unset, .unset, .unset, .unset, .unset, .unset, .unset, .unset, .unset]) (pc' := 65) K at_63 rfl rfl ?_
  refine oW.iloadN (pc' := 66) K at_65 rfl rfl ?_
  obtain ⟨v66, ev66⟩ : ∃ t_ : Int64, t_ = p0.toInt64 := ⟨_, rfl⟩
  refine oW.i2l (pc' := 67) K at_66 ev66 rfl ?_
  have tv66 : v66.toInt = p0.toInt := (oI2L ev66).trans rfl
  refine oW.lstore (Ls' := #[.val (.int p0), .val (.int p1), .val (.int p2), .val (.int p3), .val (.int p4), .val (.long (1099511627776 : Int64)), .second, .val (.int (3 : Int32)), .val (.int v18), .val (.int v26), .val (.int v35), .val (.long v44), .second, .val (.long v53), .second, .val (.long v62), .second, .val (.long v66), .second, .unset, .unset, .unset, .unset, .unset, .unset, .unset, .unset, .unset, .unset, .unset, .unset, .unset, .unset, .unset, .unset, .unset, .unset, .unset, .unset, .unset, .unset, .unset, .unset, .unset, .unset, .unset, .unset, .unset, .unset, .unset, .unset, .unset, .unset, .unset, .unset, .unset, .unset, .unset, .unset, .unset, .unset]) (pc' := 69) K at_67 rfl rfl ?_
  refine oW.lload (pc' := 71) K at_69 rfl rfl ?_
  refine oW.lload (pc' := 73) K at_71 rfl rfl ?_
  obtain ⟨v73, ev73⟩ : ∃ t_ : Int64, t_ = v66 + v44 := ⟨_, rfl⟩
  refine oW.ladd (pc' := 74) K at_73 ev73 rfl ?_
  have tv73 : v73.toInt = p0.toInt + v41.toInt + 1 := by have h1 := (tv66 : v66.toInt = _); have h2 := (tv44 : v44.toInt = _); have h := oLadd ev73 (by omega); omega
  refine oW.lstore (Ls' := #[.val (.int p0), .val (.int p1), .val (.int p2), .val (.int p3), .val (.int p4), .val (.long (1099511627776 : Int64)), .second, .val (.int (3 : Int32)), .val (.int v18), .val (.int v26), .val (.int v35), .val (.long v44), .second, .val (.long v53), .second, .val (.long v62), .second, .val (.long v66), .second, .val (.long v73), .second, .unset, .unset, .unset, .unset, .unset, .unset, .unset, .unset, .unset, .unset, .unset, .unset, .unset, .unset, .unset, .unset, .unset, .unset, .unset, .unset, .unset, .unset, .unset, .unset, .unset, .unset, .unset, .unset, .unset, .unset, .unset, .unset, .unset, .unset, .unset, .unset, .unset, .unset, .unset, .unset]) (pc' := 76) K at_74 rfl rfl ?_
  refine oW.lload (pc' := 78) K at_76 rfl rfl ?_
  refine oW.lload (pc' := 80) K at_78 rfl rfl ?_
  obtain ⟨v80, ev80⟩ : ∃ t_ : Int64, t_ = v73 + v53 := ⟨_, rfl⟩
  refine oW.ladd (pc' := 81) K at_80 ev80 rfl ?_
  have tv80 : v80.toInt = p0.toInt + v41.toInt + 1 + v50.toInt + 1 := by have h1 := (tv73 : v73.toInt = _); have h2 := (tv53 : v53.toInt = _); have h := oLadd ev80 (by omega); omega
  refine oW.lstore (Ls' := #[.val (.int p0), .val (.int p1), .val (.int p2), .val (.int p3), .val (.int p4), .val (.long (1099511627776 : Int64)), .second, .val (.int (3 : Int32)), .val (.int v18), .val (.int v26), .val (.int v35), .val (.long v44), .second, .val (.long v53), .second, .val (.long v62), .second, .val (.long v66), .second, .val (.long v73), .second, .val (.long v80), .second, .unset, .unset, .unset, .unset, .unset, .unset, .unset, .unset, .unset, .unset, .unset, .unset, .unset, .unset, .unset, .unset, .unset, .unset, .unset, .unset, .unset, .unset, .unset, .unset, .unset, .unset, .unset, .unset, .unset, .unset, .unset, .unset, .unset, .unset, .unset, .unset, .unset, .unset]) (pc' := 83) K at_81 rfl rfl ?_
  refine oW.lload (pc' := 85) K at_83 rfl rfl ?_
  refine oW.lload (pc' := 87) K at_85 rfl rfl ?_
  obtain ⟨v87, ev87⟩ : ∃ t_ : Int64, t_ = v80 + v62 := ⟨_, rfl⟩
  refine oW.ladd (pc' := 88) K at_87 ev87 rfl ?_
  have tv87 : v87.toInt = p0.toInt + v41.toInt + 1 + v50.toInt + 1 + v59.toInt + 1 := by have h1 := (tv80 : v80.toInt = _); have h2 := (tv62 : v62.toInt = _); have h := oLadd ev87 (by omega); omega
  refine oW.lstore (Ls' := #[.val (.int p0), .val (.int p1), .val (.int p2), .val (.int p3), .val (.int p4), .val (.long (1099511627776 : Int64)), .second, .val (.int (3 : Int32)), .val (.int v18), .val (.int v26), .val (.int v35), .val (.long v44), .second, .val (.long v53), .second, .val (.long v62), .second, .val (.long v66), .second, .val (.long v73), .second, .val (.long v80), .second, .val (.long v87), .second, .unset, .unset, .unset, .unset, .unset, .unset, .unset, .unset, .unset, .unset, .unset, .unset, .unset, .unset, .unset, .unset, .unset, .unset, .unset, .unset, .unset, .unset, .unset, .unset, .unset, .unset, .unset, .unset, .unset, .unset, .unset, .unset, .unset, .unset, .unset, .unset]) (pc' := 90) K at_88 rfl rfl ?_
  refine oW.iload (pc' := 92) K at_90 rfl rfl ?_
  refine oW.iconst (v := (1 : Int32)) (pc' := 93) K at_92 (by decide) rfl ?_
  refine oW.icmp_ne (pc' := 101) (pc3 := 96) K at_93 (by decide) (by decide) rfl (fun _ => ?_) (fun q => absurd q (by decide))
  refine oW.iconst (v := (1 : Int32)) (pc' := 102) K at_101 (by decide) rfl ?_
  refine oW.iload (pc' := 104) K at_102 rfl rfl ?_
  obtain ⟨v104, ev104⟩ : ∃ t_ : Int32, t_ = (1 : Int32) <<< (v18 &&& 31) := ⟨_, rfl⟩
  refine oW.ishl (pc' := 105) K at_104 ev104 rfl ?_
  have tv104 : v104.toInt = q0 := (oShlI hE0 (Nat.le_trans bE0 (by decide)) ev104).trans hx0
  refine oW.istore (Ls' := #[.val (.int p0), .val (.int p1), .val (.int p2), .val (.int p3), .val (.int p4), .val (.long (1099511627776 : Int64)), .second, .val (.int (3 : Int32)), .val (.int v18), .val (.int v26), .val (.int v35), .val (.long v44), .second, .val (.long v53), .second, .val (.long v62), .second, .val (.long v66), .second, .val (.long v73), .second, .val (.long v80), .second, .val (.long v87), .second, .val (.int v104), .unset, .unset, .unset, .unset, .unset, .unset, .unset, .unset, .unset, .unset, .unset, .unset, .unset, .unset, .unset, .unset, .unset, .unset, .unset, .unset, .unset, .unset, .unset, .unset, .unset, .unset, .unset, .unset, .unset, .unset, .unset, .unset, .unset, .unset, .unset]) (pc' := 107) K at_105 rfl rfl ?_
  refine oW.iload (pc' := 109) K at_107 rfl rfl ?_
  refine oW.iconst (v := (2 : Int32)) (pc' := 110) K at_109 (by decide) rfl ?_
  refine oW.icmp_ge (pc' := 117) (pc3 := 113) K at_110 (by decide) (by decide) rfl (fun _ => ?_) (fun q => absurd q (by decide))
  refine oW.iload (pc' := 119) K at_117 rfl rfl ?_
  refine oW.iconst (v := (2 : Int32)) (pc' := 120) K at_119 (by decide) rfl ?_
  refine oW.icmp_ne (pc' := 131) (pc3 := 123) K at_120 (by decide) (by decide) rfl (fun _ => ?_) (fun q => absurd q (by decide))
  refine oW.iconst (v := (1 : Int32)) (pc' := 132) K at_131 (by decide) rfl ?_
  refine oW.iload (pc' := 134) K at_132 rfl rfl ?_
  obtain ⟨v134, ev134⟩ : ∃ t_ : Int32, t_ = (1 : Int32) <<< (v26 &&& 31) := ⟨_, rfl⟩
  refine oW.ishl (pc' := 135) K at_134 ev134 rfl ?_
  have tv134 : v134.toInt = q1 := (oShlI hE1 (Nat.le_trans bE1 (by decide)) ev134).trans hx1
  refine oW.istore (Ls' := #[.val (.int p0), .val (.int p1), .val (.int p2), .val (.int p3), .val (.int p4), .val (.long (1099511627776 : Int64)), .second, .val (.int (3 : Int32)), .val (.int v18), .val (.int v26), .val (.int v35), .val (.long v44), .second, .val (.long v53), .second, .val (.long v62), .second, .val (.long v66), .second, .val (.long v73), .second, .val (.long v80), .second, .val (.long v87), .second, .val (.int v104), .val (.int v134), .unset, .unset, .unset, .unset, .unset, .unset, .unset, .unset, .unset, .unset, .unset, .unset, .unset, .unset, .unset, .unset, .unset, .unset, .unset, .unset, .unset, .unset, .unset, .unset, .unset, .unset, .unset, .unset, .unset, .unset, .unset, .unset, .unset, .unset]) (pc' := 137) K at_135 rfl rfl ?_
  refine oW.iload (pc' := 139) K at_137 rfl rfl ?_
  refine oW.iconst (v := (3 : Int32)) (pc' := 140) K at_139 (by decide) rfl ?_
  refine oW.icmp_ge (pc' := 147) (pc3 := 143) K at_140 (by decide) (by decide) rfl (fun _ => ?_) (fun q => absurd q (by decide))
  refine oW.iload (pc' := 149) K at_147 rfl rfl ?_
  refine oW.iconst (v := (3 : Int32)) (pc' := 150) K at_149 (by decide) rfl ?_
  refine oW.icmp_ne (pc' := 164) (pc3 := 153) K at_150 (by decide) (by decide) rfl (fun q => absurd q (by decide)) (fun _ => ?_)
  refine oW.bipush (v := (32 : Int32)) (pc' := 155) K at_153 (by decide) rfl ?_
  refine oW.iload (pc' := 157) K at_155 rfl rfl ?_
  obtain ⟨v157, ev157⟩ : ∃ t_ : Int32, t_ = (32 : Int32) - v104 := ⟨_, rfl⟩
  refine oW.isub (pc' := 158) K at_157 ev157 rfl ?_
  have tv157 : v157.toInt = 32 - q0 := by have h1 := ((by decide : ((32 : Int32)).toInt = 32) : ((32 : Int32)).toInt = _); have h2 := (tv104 : v104.toInt = _); have h := oIsub ev157 (by omega); omega
  refine oW.iload (pc' := 160) K at_158 rfl rfl ?_
  obtain ⟨v160, ev160⟩ : ∃ t_ : Int32, t_ = v157 - v134 := ⟨_, rfl⟩
  refine oW.isub (pc' := 161) K at_160 ev160 rfl ?_
  have tv160 : v160.toInt = 32 - q0 - q1 := by have h1 := (tv157 : v157.toInt = _); have h2 := (tv134 : v134.toInt = _); have h := oIsub ev160 (by omega); omega
  refine oW.goto (pc' := 168) K at_161 (by decide) (by decide) ?_
  refine oW.istore (Ls' := #[.val (.int p0), .val (.int p1), .val (.int p2), .val (.int p3), .val (.int p4), .val (.long (1099511627776 : Int64)), .second, .val (.int (3 : Int32)), .val (.int v18), .val (.int v26), .val (.int v35), .val (.long v44), .second, .val (.long v53), .second, .val (.long v62), .second, .val (.long v66), .second, .val (.long v73), .second, .val (.long v80), .second, .val (.long v87), .second, .val (.int v104), .val (.int v134), .val (.int v160), .unset, .unset, .unset, .unset, .unset, .unset, .unset, .unset, .unset, .unset, .unset, .unset, .unset, .unset, .unset, .unset, .unset, .unset, .unset, .unset, .unset, .unset, .unset, .unset, .unset, .unset, .unset, .unset, .unset, .unset, .unset, .unset, .unset]) (pc' := 170) K at_168 rfl rfl ?_
  refine oW.iload (pc' := 172) K at_170 rfl rfl ?_
  refine oW.iconst (v := (4 : Int32)) (pc' := 173) K at_172 (by decide) rfl ?_
  refine oW.icmp_ge (pc' := 180) (pc3 := 176) K at_173 (by decide) (by decide) rfl (fun q => absurd q (by decide)) (fun _ => ?_)
  refine oW.iconst (v := (0 : Int32)) (pc' := 177) K at_176 (by decide) rfl ?_
  refine oW.goto (pc' := 191) K at_177 (by decide) (by decide) ?_
  refine oW.istore (Ls' := #[.val (.int p0), .val (.int p1), .val (.int p2), .val (.int p3), .val (.int p4), .val (.long (1099511627776 : Int64)), .second, .val (.int (3 : Int32)), .val (.int v18), .val (.int v26), .val (.int v35), .val (.long v44), .second, .val (.long v53), .second, .val (.long v62), .second, .val (.long v66), .second, .val (.long v73), .second, .val (.long v80), .second, .val (.long v87), .second, .val (.int v104), .val (.int v134), .val (.int v160), .val (.int (0 : Int32)), .unset, .unset, .unset, .unset, .unset, .unset, .unset, .unset, .unset, .unset, .unset, .unset, .unset, .unset, .unset, .unset, .unset, .unset, .unset, .unset, .unset, .unset, .unset, .unset, .unset, .unset, .unset, .unset, .unset, .unset, .unset, .unset]) (pc' := 193) K at_191 rfl rfl ?_
  obtain ⟨u0, hu0⟩ : ∃ z : Int, v66.toInt = z := ⟨_, rfl⟩
  obtain ⟨u1, hu1⟩ : ∃ z : Int, v73.toInt = z := ⟨_, rfl⟩
  obtain ⟨u2, hu2⟩ : ∃ z : Int, v80.toInt = z := ⟨_, rfl⟩
  obtain ⟨u3, hu3⟩ : ∃ z : Int, v87.toInt = z := ⟨_, rfl⟩
  obtain ⟨g1, hg1⟩ : ∃ z : Int, v44.toInt = z := ⟨_, rfl⟩
  obtain ⟨g2, hg2⟩ : ∃ z : Int, v53.toInt = z := ⟨_, rfl⟩
  obtain ⟨g3, hg3⟩ : ∃ z : Int, v62.toInt = z := ⟨_, rfl⟩
  obtain ⟨q2, hq2⟩ : ∃ z : Int, v160.toInt = z := ⟨_, rfl⟩
  have bu0 : -4294967296 ≤ u0 ∧ u0 ≤ 4294967296 := by omega
  have bu1 : -4294967296 ≤ u1 ∧ u1 ≤ 4294967296 := by omega
  have bu2 : -4294967296 ≤ u2 ∧ u2 ≤ 4294967296 := by omega
  have bu3 : -4294967296 ≤ u3 ∧ u3 ≤ 4294967296 := by omega
  have bg1 : 1 ≤ g1 ∧ g1 ≤ 1048576 := by omega
  have du0 : u1 - u0 = g1 := by omega
  have bg2 : 1 ≤ g2 ∧ g2 ≤ 1048576 := by omega
  have du1 : u2 - u1 = g2 := by omega
  have bg3 : 1 ≤ g3 ∧ g3 ≤ 1048576 := by omega
  have du2 : u3 - u2 = g3 := by omega
  have bql : 1 ≤ q2 ∧ q2 ≤ 32 ∧ q0 + q1 + q2 = 32 := by omega
  try clear tv9
  try clear tv18
  try clear tv26
  try clear tv35
  try clear tv41
  try clear tv42
  try clear tv44
  try clear tv50
  try clear tv51
  try clear tv53
  try clear tv59
  try clear tv60
  try clear tv62
  try clear tv66
  try clear tv73
  try clear tv80
  try clear tv87
  try clear tv157
  try clear tv160
  try clear b32
  obtain ⟨T0, hT0⟩ : ∃ z : Int, z = q1 + q2 + 0 := ⟨_, rfl⟩
  have hP0 := oMB (a := g1) (A := 1048576) (by omega) (b := T0) (B := 32) (by omega)
  have hPc0 := oMB (a := g1 * T0) (A := 33554432) (by omega) (b := c0) (B := 8) (by omega)
  obtain ⟨R0, hR0⟩ : ∃ z : Int, u0 * 8 - g1 * T0 * c0 = z := ⟨_, rfl⟩
  obtain ⟨T1, hT1⟩ : ∃ z : Int, z = q2 + 0 := ⟨_, rfl⟩
  have hP1 := oMB (a := g2) (A := 1048576) (by omega) (b := T1) (B := 32) (by omega)
  have hPc1 := oMB (a := g2 * T1) (A := 33554432) (by omega) (b := c1) (B := 8) (by omega)
  obtain ⟨R1, hR1⟩ : ∃ z : Int, u1 * 8 - g2 * T1 * c1 = z := ⟨_, rfl⟩
  obtain ⟨T2, hT2⟩ : ∃ z : Int, z = 0 := ⟨_, rfl⟩
  have hP2 := oMB (a := g3) (A := 1048576) (by omega) (b := T2) (B := 32) (by omega)
  have hPc2 := oMB (a := g3 * T2) (A := 33554432) (by omega) (b := c2) (B := 8) (by omega)
  obtain ⟨R2, hR2⟩ : ∃ z : Int, u2 * 8 - g3 * T2 * c2 = z := ⟨_, rfl⟩
  have hN0 := oMBr (q := q0) (R := R0) (by omega) (by omega)
  have hN1 := oMBr (q := q1) (R := R1) (by omega) (by omega)
  have hN2 := oMBr (q := q2) (R := R2) (by omega) (by omega)
  refine oW.iload (pc' := 195) K at_193 rfl rfl ?_
  refine oW.newarr (n := 3) (cells' := 1) (slots' := 3) (dsf := fun z => [(z, .inl (.double, [(.double (0 : UInt64)), (.double (0 : UInt64)), (.double (0 : UInt64))]))]) (pc' := 197) K (hw _ (List.mem_of_getElem? (i := 2) rfl)) at_195 rfl (by decide) (by decide) (by decide) (by decide) rfl rfl (fun _ => rfl) rfl ?_
  intro a195 ha195
  refine oW.astore (Ls' := #[.val (.int p0), .val (.int p1), .val (.int p2), .val (.int p3), .val (.int p4), .val (.long (1099511627776 : Int64)), .second, .val (.int (3 : Int32)), .val (.int v18), .val (.int v26), .val (.int v35), .val (.long v44), .second, .val (.long v53), .second, .val (.long v62), .second, .val (.long v66), .second, .val (.long v73), .second, .val (.long v80), .second, .val (.long v87), .second, .val (.int v104), .val (.int v134), .val (.int v160), .val (.int (0 : Int32)), .val (.ref a195), .unset, .unset, .unset, .unset, .unset, .unset, .unset, .unset, .unset, .unset, .unset, .unset, .unset, .unset, .unset, .unset, .unset, .unset, .unset, .unset, .unset, .unset, .unset, .unset, .unset, .unset, .unset, .unset, .unset, .unset, .unset]) (pc' := 199) K at_197 rfl rfl rfl ?_
  refine oW.iload (pc' := 201) K at_199 rfl rfl ?_
  refine oW.newarr (n := 3) (cells' := 2) (slots' := 6) (dsf := fun z => [(a195, .inl (.double, [(.double (0 : UInt64)), (.double (0 : UInt64)), (.double (0 : UInt64))])), (z, .inl (.double, [(.double (0 : UInt64)), (.double (0 : UInt64)), (.double (0 : UInt64))]))]) (pc' := 203) K (hw _ (List.mem_of_getElem? (i := 2) rfl)) at_201 rfl (by decide) (by decide) (by decide) (by decide) rfl rfl (fun _ => rfl) rfl ?_
  intro a201 ha201
  refine oW.astore (Ls' := #[.val (.int p0), .val (.int p1), .val (.int p2), .val (.int p3), .val (.int p4), .val (.long (1099511627776 : Int64)), .second, .val (.int (3 : Int32)), .val (.int v18), .val (.int v26), .val (.int v35), .val (.long v44), .second, .val (.long v53), .second, .val (.long v62), .second, .val (.long v66), .second, .val (.long v73), .second, .val (.long v80), .second, .val (.long v87), .second, .val (.int v104), .val (.int v134), .val (.int v160), .val (.int (0 : Int32)), .val (.ref a195), .val (.ref a201), .unset, .unset, .unset, .unset, .unset, .unset, .unset, .unset, .unset, .unset, .unset, .unset, .unset, .unset, .unset, .unset, .unset, .unset, .unset, .unset, .unset, .unset, .unset, .unset, .unset, .unset, .unset, .unset, .unset, .unset]) (pc' := 205) K at_203 rfl rfl rfl ?_
  refine oW.aload (pc' := 207) K at_205 rfl rfl rfl ?_
  refine oW.iconst (v := (0 : Int32)) (pc' := 208) K at_207 (by decide) rfl ?_
  refine oW.lload (pc' := 210) K at_208 rfl rfl ?_
  obtain ⟨v210, ev210⟩ : ∃ t_ : UInt64, t_ = FP.l2d v66 := ⟨_, rfl⟩
  have qv210 : oQ (u0) 0 v210 := oQ.int (hu0 ▸ oL2D ev210 (by have h1 := hu0; omega))
  refine oW.l2d (pc' := 211) K at_210 ev210 rfl ?_
  refine oW.dastore (i := 0) (k := 0) (ds' := [(a195, .inl (.double, [(.double v210), (.double (0 : UInt64)), (.double (0 : UInt64))])), (a201, .inl (.double, [(.double (0 : UInt64)), (.double (0 : UInt64)), (.double (0 : UInt64))]))]) (pc' := 212) K at_211 rfl rfl (by decide) (Nat.lt_of_sub_eq_succ rfl) rfl rfl ?_
  refine oW.aload (pc' := 214) K at_212 rfl rfl rfl ?_
  refine oW.iconst (v := (0 : Int32)) (pc' := 215) K at_214 (by decide) rfl ?_
  refine oW.iload (pc' := 217) K at_215 rfl rfl ?_
  obtain ⟨v217, ev217⟩ : ∃ t_ : UInt64, t_ = FP.i2d v104 := ⟨_, rfl⟩
  have qv217 : oQ (q0) 0 v217 := oQ.int (tv104 ▸ oI2D ev217)
  refine oW.i2d (pc' := 218) K at_217 ev217 rfl ?_
  refine oW.ldc2D (pc' := 221) K (hw _ (List.mem_of_getElem? (i := 3) rfl)) at_218 rfl ?_
  obtain ⟨v221, ev221⟩ : ∃ t_ : UInt64, t_ = FP.ddiv v217 (4629700416936869888 : UInt64) := ⟨_, rfl⟩
  have qv221 : oQ (q0) 5 v221 := qv217.divx (oQ.int (oDK 32 (by decide +kernel) (by decide))) ev221 _ 5 (by decide) (by decide) (by decide) (by decide) (by omega) (by show q0 * 1 * 32 = q0 * (32 * 1); omega)
  refine oW.ddiv (pc' := 222) K at_221 ev221 (qv221.nn) rfl ?_
  refine oW.dastore (i := 1) (k := 0) (ds' := [(a195, .inl (.double, [(.double v210), (.double (0 : UInt64)), (.double (0 : UInt64))])), (a201, .inl (.double, [(.double v221), (.double (0 : UInt64)), (.double (0 : UInt64))]))]) (pc' := 223) K at_222 rfl rfl (by decide) (Nat.lt_of_sub_eq_succ rfl) rfl rfl ?_
  refine oW.iload (pc' := 225) K at_223 rfl rfl ?_
  refine oW.iconst (v := (1 : Int32)) (pc' := 226) K at_225 (by decide) rfl ?_
  refine oW.icmp_le (pc' := 247) (pc3 := 229) K at_226 (by decide) (by decide) rfl (fun q => absurd q (by decide)) (fun _ => ?_)
  refine oW.aload (pc' := 231) K at_229 rfl rfl rfl ?_
  refine oW.iconst (v := (1 : Int32)) (pc' := 232) K at_231 (by decide) rfl ?_
  refine oW.lload (pc' := 234) K at_232 rfl rfl ?_
  obtain ⟨v234, ev234⟩ : ∃ t_ : UInt64, t_ = FP.l2d v73 := ⟨_, rfl⟩
  have qv234 : oQ (u1) 0 v234 := oQ.int (hu1 ▸ oL2D ev234 (by have h1 := hu1; omega))
  refine oW.l2d (pc' := 235) K at_234 ev234 rfl ?_
  refine oW.dastore (i := 0) (k := 1) (ds' := [(a195, .inl (.double, [(.double v210), (.double v234), (.double (0 : UInt64))])), (a201, .inl (.double, [(.double v221), (.double (0 : UInt64)), (.double (0 : UInt64))]))]) (pc' := 236) K at_235 rfl rfl (by decide) (Nat.lt_of_sub_eq_succ rfl) rfl rfl ?_
  refine oW.aload (pc' := 238) K at_236 rfl rfl rfl ?_
  refine oW.iconst (v := (1 : Int32)) (pc' := 239) K at_238 (by decide) rfl ?_
  refine oW.iload (pc' := 241) K at_239 rfl rfl ?_
  obtain ⟨v241, ev241⟩ : ∃ t_ : UInt64, t_ = FP.i2d v134 := ⟨_, rfl⟩
  have qv241 : oQ (q1) 0 v241 := oQ.int (tv134 ▸ oI2D ev241)
  refine oW.i2d (pc' := 242) K at_241 ev241 rfl ?_
  refine oW.ldc2D (pc' := 245) K (hw _ (List.mem_of_getElem? (i := 3) rfl)) at_242 rfl ?_
  obtain ⟨v245, ev245⟩ : ∃ t_ : UInt64, t_ = FP.ddiv v241 (4629700416936869888 : UInt64) := ⟨_, rfl⟩
  have qv245 : oQ (q1) 5 v245 := qv241.divx (oQ.int (oDK 32 (by decide +kernel) (by decide))) ev245 _ 5 (by decide) (by decide) (by decide) (by decide) (by omega) (by show q1 * 1 * 32 = q1 * (32 * 1); omega)
  refine oW.ddiv (pc' := 246) K at_245 ev245 (qv245.nn) rfl ?_
  refine oW.dastore (i := 1) (k := 1) (ds' := [(a195, .inl (.double, [(.double v210), (.double v234), (.double (0 : UInt64))])), (a201, .inl (.double, [(.double v221), (.double v245), (.double (0 : UInt64))]))]) (pc' := 247) K at_246 rfl rfl (by decide) (Nat.lt_of_sub_eq_succ rfl) rfl rfl ?_
  refine oW.iload (pc' := 249) K at_247 rfl rfl ?_
  refine oW.iconst (v := (2 : Int32)) (pc' := 250) K at_249 (by decide) rfl ?_
  refine oW.icmp_le (pc' := 271) (pc3 := 253) K at_250 (by decide) (by decide) rfl (fun q => absurd q (by decide)) (fun _ => ?_)
  refine oW.aload (pc' := 255) K at_253 rfl rfl rfl ?_
  refine oW.iconst (v := (2 : Int32)) (pc' := 256) K at_255 (by decide) rfl ?_
  refine oW.lload (pc' := 258) K at_256 rfl rfl ?_
  obtain ⟨v258, ev258⟩ : ∃ t_ : UInt64, t_ = FP.l2d v80 := ⟨_, rfl⟩
  have qv258 : oQ (u2) 0 v258 := oQ.int (hu2 ▸ oL2D ev258 (by have h1 := hu2; omega))
  refine oW.l2d (pc' := 259) K at_258 ev258 rfl ?_
  refine oW.dastore (i := 0) (k := 2) (ds' := [(a195, .inl (.double, [(.double v210), (.double v234), (.double v258)])), (a201, .inl (.double, [(.double v221), (.double v245), (.double (0 : UInt64))]))]) (pc' := 260) K at_259 rfl rfl (by decide) (Nat.lt_of_sub_eq_succ rfl) rfl rfl ?_
  refine oW.aload (pc' := 262) K at_260 rfl rfl rfl ?_
  refine oW.iconst (v := (2 : Int32)) (pc' := 263) K at_262 (by decide) rfl ?_
  refine oW.iload (pc' := 265) K at_263 rfl rfl ?_
  obtain ⟨v265, ev265⟩ : ∃ t_ : UInt64, t_ = FP.i2d v160 := ⟨_, rfl⟩
  have qv265 : oQ (q2) 0 v265 := oQ.int (hq2 ▸ oI2D ev265)
  refine oW.i2d (pc' := 266) K at_265 ev265 rfl ?_
  refine oW.ldc2D (pc' := 269) K (hw _ (List.mem_of_getElem? (i := 3) rfl)) at_266 rfl ?_
  obtain ⟨v269, ev269⟩ : ∃ t_ : UInt64, t_ = FP.ddiv v265 (4629700416936869888 : UInt64) := ⟨_, rfl⟩
  have qv269 : oQ (q2) 5 v269 := qv265.divx (oQ.int (oDK 32 (by decide +kernel) (by decide))) ev269 _ 5 (by decide) (by decide) (by decide) (by decide) (by omega) (by show q2 * 1 * 32 = q2 * (32 * 1); omega)
  refine oW.ddiv (pc' := 270) K at_269 ev269 (qv269.nn) rfl ?_
  refine oW.dastore (i := 1) (k := 2) (ds' := [(a195, .inl (.double, [(.double v210), (.double v234), (.double v258)])), (a201, .inl (.double, [(.double v221), (.double v245), (.double v269)]))]) (pc' := 271) K at_270 rfl rfl (by decide) (Nat.lt_of_sub_eq_succ rfl) rfl rfl ?_
  refine oW.iload (pc' := 273) K at_271 rfl rfl ?_
  refine oW.iconst (v := (3 : Int32)) (pc' := 274) K at_273 (by decide) rfl ?_
  refine oW.icmp_le (pc' := 295) (pc3 := 277) K at_274 (by decide) (by decide) rfl (fun _ => ?_) (fun q => absurd q (by decide))
  refine oW.aload (pc' := 297) K at_295 rfl rfl rfl ?_
  refine oW.aload (pc' := 299) K at_297 rfl rfl rfl ?_
  have hRl : u2 * 8 = R2 := by rw [← hR2, hT2]; simp
  refine oW.callS (argsL := [(.ref a195), (.ref a201)]) (S := []) (rm := ({ frames := 2, cells := 5, slots := 20, locals := 60 } : Room)) (W := 0) (cells' := 7) (slots' := 26) (pc' := 302) K (hw _ (List.mem_of_getElem? (i := 4) rfl)) (hw _ (List.mem_of_getElem? (i := 5) rfl)) (hw _ (List.mem_of_getElem? (i := 6) rfl)) (hw _ (List.mem_of_getElem? (i := 7) rfl)) (by decide) (own_ir3 hw qv210 qv221 (by omega) (by omega) (by omega) qv234 qv245 (by omega) (by omega) (by omega) qv258 qv269 (by omega) (by omega) (by omega) (by omega) (by omega) (by omega) hqc0 (by omega) (by omega) hR0 (by omega) (by omega) (by omega) hqc1 (by omega) (by omega) hR1 (by omega) hRl) (lenOf pd_2 rfl) at_299 rfl rfl (Nat.le_of_eq rfl) (by decide) (by decide) (by decide) (by decide) rfl rfl rfl ?_
  rintro _ _ ⟨a2, a3, a4, a5, a6, l2, l3, l4, l5, v0, v1, v2, rfl, rfl, ⟨hir, q2v⟩⟩
  refine oW.astore (Ls' := #[.val (.int p0), .val (.int p1), .val (.int p2), .val (.int p3), .val (.int p4), .val (.long (1099511627776 : Int64)), .second, .val (.int (3 : Int32)), .val (.int v18), .val (.int v26), .val (.int v35), .val (.long v44), .second, .val (.long v53), .second, .val (.long v62), .second, .val (.long v66), .second, .val (.long v73), .second, .val (.long v80), .second, .val (.long v87), .second, .val (.int v104), .val (.int v134), .val (.int v160), .val (.int (0 : Int32)), .val (.ref a195), .val (.ref a201), .val (.ref a6), .unset, .unset, .unset, .unset, .unset, .unset, .unset, .unset, .unset, .unset, .unset, .unset, .unset, .unset, .unset, .unset, .unset, .unset, .unset, .unset, .unset, .unset, .unset, .unset, .unset, .unset, .unset, .unset, .unset]) (pc' := 304) K at_302 rfl rfl rfl ?_
  refine oW.aload (pc' := 306) K at_304 rfl rfl rfl ?_
  refine oW.alen (i := 6) (v := (3 : Int32)) (pc' := 307) K at_306 rfl rfl rfl ?_
  refine oW.iload (pc' := 309) K at_307 rfl rfl ?_
  refine oW.icmp_eq (pc' := 314) (pc3 := 312) K at_309 (by decide) (by decide) rfl (fun _ => ?_) (fun q => absurd q (by decide))
  refine oW.ldc2L (pc' := 317) K (hw _ (List.mem_of_getElem? (i := 16) rfl)) at_314 rfl ?_
  refine oW.lload (pc' := 319) K at_317 rfl rfl ?_
  obtain ⟨v319, ev319⟩ : ∃ t_ : Int64, t_ = (8 : Int64) * v66 := ⟨_, rfl⟩
  refine oW.lmul (pc' := 320) K at_319 ev319 rfl ?_
  have tv319 : v319.toInt = 8 * u0 := (oLmul ev319 (by rw [(by decide : ((8 : Int64)).toInt = 8), hu0]; omega)).trans (by rw [(by decide : ((8 : Int64)).toInt = 8), hu0])
  refine oW.lload (pc' := 322) K at_320 rfl rfl ?_
  refine oW.iload (pc' := 324) K at_322 rfl rfl ?_
  refine oW.iload (pc' := 326) K at_324 rfl rfl ?_
  obtain ⟨v326, ev326⟩ : ∃ t_ : Int32, t_ = v134 + v160 := ⟨_, rfl⟩
  refine oW.iadd (pc' := 327) K at_326 ev326 rfl ?_
  have tv326 : v326.toInt = q1 + q2 := by have h1 := (tv134 : v134.toInt = _); have h2 := (hq2 : v160.toInt = _); have h := oIadd ev326 (by omega); omega
  refine oW.iload (pc' := 329) K at_327 rfl rfl ?_
  obtain ⟨v329, ev329⟩ : ∃ t_ : Int32, t_ = v326 + (0 : Int32) := ⟨_, rfl⟩
  refine oW.iadd (pc' := 330) K at_329 ev329 rfl ?_
  have tv329 : v329.toInt = T0 := by have h1 := (tv326 : v326.toInt = _); have h2 := ((by decide : ((0 : Int32)).toInt = 0) : ((0 : Int32)).toInt = _); have h := oIadd ev329 (by omega); omega
  obtain ⟨v330, ev330⟩ : ∃ t_ : Int64, t_ = v329.toInt64 := ⟨_, rfl⟩
  refine oW.i2l (pc' := 331) K at_330 ev330 rfl ?_
  have tv330 : v330.toInt = T0 := (oI2L ev330).trans tv329
  obtain ⟨v331, ev331⟩ : ∃ t_ : Int64, t_ = v44 * v330 := ⟨_, rfl⟩
  refine oW.lmul (pc' := 332) K at_331 ev331 rfl ?_
  have tv331 : v331.toInt = g1 * T0 := (oLmul ev331 (by rw [hg1, tv330]; omega)).trans (by rw [hg1, tv330])
  refine oW.bipush (v := (8 : Int32)) (pc' := 334) K at_332 (by decide) rfl ?_
  refine oW.iload (pc' := 336) K at_334 rfl rfl ?_
  obtain ⟨v336, ev336⟩ : ∃ t_ : Int32, t_ = (8 : Int32) >>> (v18 &&& 31) := ⟨_, rfl⟩
  refine oW.ishr (pc' := 337) K at_336 ev336 rfl ?_
  have tv336 : v336.toInt = c0 := (oShr8 hE0 bE0 ev336).trans hy0
  obtain ⟨v337, ev337⟩ : ∃ t_ : Int64, t_ = v336.toInt64 := ⟨_, rfl⟩
  refine oW.i2l (pc' := 338) K at_337 ev337 rfl ?_
  have tv337 : v337.toInt = c0 := (oI2L ev337).trans tv336
  obtain ⟨v338, ev338⟩ : ∃ t_ : Int64, t_ = v331 * v337 := ⟨_, rfl⟩
  refine oW.lmul (pc' := 339) K at_338 ev338 rfl ?_
  have tv338 : v338.toInt = g1 * T0 * c0 := (oLmul ev338 (by rw [tv331, tv337]; omega)).trans (by rw [tv331, tv337])
  obtain ⟨v339, ev339⟩ : ∃ t_ : Int64, t_ = v319 - v338 := ⟨_, rfl⟩
  refine oW.lsub (pc' := 340) K at_339 ev339 rfl ?_
  have tv339 : v339.toInt = R0 := by have h1 := (tv319 : v319.toInt = _); have h2 := (tv338 : v338.toInt = _); have h := oLsub ev339 (by omega); omega
  refine oW.lstore (Ls' := #[.val (.int p0), .val (.int p1), .val (.int p2), .val (.int p3), .val (.int p4), .val (.long (1099511627776 : Int64)), .second, .val (.int (3 : Int32)), .val (.int v18), .val (.int v26), .val (.int v35), .val (.long v44), .second, .val (.long v53), .second, .val (.long v62), .second, .val (.long v66), .second, .val (.long v73), .second, .val (.long v80), .second, .val (.long v87), .second, .val (.int v104), .val (.int v134), .val (.int v160), .val (.int (0 : Int32)), .val (.ref a195), .val (.ref a201), .val (.ref a6), .val (.long v339), .second, .unset, .unset, .unset, .unset, .unset, .unset, .unset, .unset, .unset, .unset, .unset, .unset, .unset, .unset, .unset, .unset, .unset, .unset, .unset, .unset, .unset, .unset, .unset, .unset, .unset, .unset, .unset]) (pc' := 342) K at_340 rfl rfl ?_
  refine oW.iload (pc' := 344) K at_342 rfl rfl ?_
  refine oW.iconst (v := (1 : Int32)) (pc' := 345) K at_344 (by decide) rfl ?_
  refine oW.icmp_le (pc' := 374) (pc3 := 348) K at_345 (by decide) (by decide) rfl (fun q => absurd q (by decide)) (fun _ => ?_)
  refine oW.ldc2L (pc' := 351) K (hw _ (List.mem_of_getElem? (i := 16) rfl)) at_348 rfl ?_
  refine oW.lload (pc' := 353) K at_351 rfl rfl ?_
  obtain ⟨v353, ev353⟩ : ∃ t_ : Int64, t_ = (8 : Int64) * v73 := ⟨_, rfl⟩
  refine oW.lmul (pc' := 354) K at_353 ev353 rfl ?_
  have tv353 : v353.toInt = 8 * u1 := (oLmul ev353 (by rw [(by decide : ((8 : Int64)).toInt = 8), hu1]; omega)).trans (by rw [(by decide : ((8 : Int64)).toInt = 8), hu1])
  refine oW.lload (pc' := 356) K at_354 rfl rfl ?_
  refine oW.iload (pc' := 358) K at_356 rfl rfl ?_
  refine oW.iload (pc' := 360) K at_358 rfl rfl ?_
  obtain ⟨v360, ev360⟩ : ∃ t_ : Int32, t_ = v160 + (0 : Int32) := ⟨_, rfl⟩
  refine oW.iadd (pc' := 361) K at_360 ev360 rfl ?_
  have tv360 : v360.toInt = T1 := by have h1 := (hq2 : v160.toInt = _); have h2 := ((by decide : ((0 : Int32)).toInt = 0) : ((0 : Int32)).toInt = _); have h := oIadd ev360 (by omega); omega
  obtain ⟨v361, ev361⟩ : ∃ t_ : Int64, t_ = v360.toInt64 := ⟨_, rfl⟩
  refine oW.i2l (pc' := 362) K at_361 ev361 rfl ?_
  have tv361 : v361.toInt = T1 := (oI2L ev361).trans tv360
  obtain ⟨v362, ev362⟩ : ∃ t_ : Int64, t_ = v53 * v361 := ⟨_, rfl⟩
  refine oW.lmul (pc' := 363) K at_362 ev362 rfl ?_
  have tv362 : v362.toInt = g2 * T1 := (oLmul ev362 (by rw [hg2, tv361]; omega)).trans (by rw [hg2, tv361])
  refine oW.bipush (v := (8 : Int32)) (pc' := 365) K at_363 (by decide) rfl ?_
  refine oW.iload (pc' := 367) K at_365 rfl rfl ?_
  obtain ⟨v367, ev367⟩ : ∃ t_ : Int32, t_ = (8 : Int32) >>> (v26 &&& 31) := ⟨_, rfl⟩
  refine oW.ishr (pc' := 368) K at_367 ev367 rfl ?_
  have tv367 : v367.toInt = c1 := (oShr8 hE1 bE1 ev367).trans hy1
  obtain ⟨v368, ev368⟩ : ∃ t_ : Int64, t_ = v367.toInt64 := ⟨_, rfl⟩
  refine oW.i2l (pc' := 369) K at_368 ev368 rfl ?_
  have tv368 : v368.toInt = c1 := (oI2L ev368).trans tv367
  obtain ⟨v369, ev369⟩ : ∃ t_ : Int64, t_ = v362 * v368 := ⟨_, rfl⟩
  refine oW.lmul (pc' := 370) K at_369 ev369 rfl ?_
  have tv369 : v369.toInt = g2 * T1 * c1 := (oLmul ev369 (by rw [tv362, tv368]; omega)).trans (by rw [tv362, tv368])
  obtain ⟨v370, ev370⟩ : ∃ t_ : Int64, t_ = v353 - v369 := ⟨_, rfl⟩
  refine oW.lsub (pc' := 371) K at_370 ev370 rfl ?_
  have tv370 : v370.toInt = R1 := by have h1 := (tv353 : v353.toInt = _); have h2 := (tv369 : v369.toInt = _); have h := oLsub ev370 (by omega); omega
  refine oW.goto (pc' := 376) K at_371 (by decide) (by decide) ?_
  refine oW.lstore (Ls' := #[.val (.int p0), .val (.int p1), .val (.int p2), .val (.int p3), .val (.int p4), .val (.long (1099511627776 : Int64)), .second, .val (.int (3 : Int32)), .val (.int v18), .val (.int v26), .val (.int v35), .val (.long v44), .second, .val (.long v53), .second, .val (.long v62), .second, .val (.long v66), .second, .val (.long v73), .second, .val (.long v80), .second, .val (.long v87), .second, .val (.int v104), .val (.int v134), .val (.int v160), .val (.int (0 : Int32)), .val (.ref a195), .val (.ref a201), .val (.ref a6), .val (.long v339), .second, .val (.long v370), .second, .unset, .unset, .unset, .unset, .unset, .unset, .unset, .unset, .unset, .unset, .unset, .unset, .unset, .unset, .unset, .unset, .unset, .unset, .unset, .unset, .unset, .unset, .unset, .unset, .unset]) (pc' := 378) K at_376 rfl rfl ?_
  refine oW.iload (pc' := 380) K at_378 rfl rfl ?_
  refine oW.iconst (v := (2 : Int32)) (pc' := 381) K at_380 (by decide) rfl ?_
  refine oW.icmp_le (pc' := 407) (pc3 := 384) K at_381 (by decide) (by decide) rfl (fun q => absurd q (by decide)) (fun _ => ?_)
  refine oW.ldc2L (pc' := 387) K (hw _ (List.mem_of_getElem? (i := 16) rfl)) at_384 rfl ?_
  refine oW.lload (pc' := 389) K at_387 rfl rfl ?_
  obtain ⟨v389, ev389⟩ : ∃ t_ : Int64, t_ = (8 : Int64) * v80 := ⟨_, rfl⟩
  refine oW.lmul (pc' := 390) K at_389 ev389 rfl ?_
  have tv389 : v389.toInt = 8 * u2 := (oLmul ev389 (by rw [(by decide : ((8 : Int64)).toInt = 8), hu2]; omega)).trans (by rw [(by decide : ((8 : Int64)).toInt = 8), hu2])
  refine oW.lload (pc' := 392) K at_390 rfl rfl ?_
  refine oW.iload (pc' := 394) K at_392 rfl rfl ?_
  refine oW.i2l (v := (0 : Int64)) (pc' := 395) K at_394 (by decide) rfl ?_
  obtain ⟨v395, ev395⟩ : ∃ t_ : Int64, t_ = v62 * (0 : Int64) := ⟨_, rfl⟩
  refine oW.lmul (pc' := 396) K at_395 ev395 rfl ?_
  have tv395 : v395.toInt = g3 * 0 := (oLmul ev395 (by rw [hg3, (by decide : ((0 : Int64)).toInt = 0)]; omega)).trans (by rw [hg3, (by decide : ((0 : Int64)).toInt = 0)])
  refine oW.bipush (v := (8 : Int32)) (pc' := 398) K at_396 (by decide) rfl ?_
  refine oW.iload (pc' := 400) K at_398 rfl rfl ?_
  obtain ⟨v400, ev400⟩ : ∃ t_ : Int32, t_ = (8 : Int32) >>> (v35 &&& 31) := ⟨_, rfl⟩
  refine oW.ishr (pc' := 401) K at_400 ev400 rfl ?_
  have tv400 : v400.toInt = c2 := (oShr8 hE2 bE2 ev400).trans hy2
  obtain ⟨v401, ev401⟩ : ∃ t_ : Int64, t_ = v400.toInt64 := ⟨_, rfl⟩
  refine oW.i2l (pc' := 402) K at_401 ev401 rfl ?_
  have tv401 : v401.toInt = c2 := (oI2L ev401).trans tv400
  obtain ⟨v402, ev402⟩ : ∃ t_ : Int64, t_ = v395 * v401 := ⟨_, rfl⟩
  refine oW.lmul (pc' := 403) K at_402 ev402 rfl ?_
  have tv402 : v402.toInt = g3 * 0 * c2 := (oLmul ev402 (by rw [tv395, tv401]; omega)).trans (by rw [tv395, tv401])
  obtain ⟨v403, ev403⟩ : ∃ t_ : Int64, t_ = v389 - v402 := ⟨_, rfl⟩
  refine oW.lsub (pc' := 404) K at_403 ev403 rfl ?_
  have tv403 : v403.toInt = R2 := by have h1 := (tv389 : v389.toInt = _); have h2 := (tv402 : v402.toInt = _); have h := oLsub ev403 (by omega); omega
  refine oW.goto (pc' := 409) K at_404 (by decide) (by decide) ?_
  refine oW.lstore (Ls' := #[.val (.int p0), .val (.int p1), .val (.int p2), .val (.int p3), .val (.int p4), .val (.long (1099511627776 : Int64)), .second, .val (.int (3 : Int32)), .val (.int v18), .val (.int v26), .val (.int v35), .val (.long v44), .second, .val (.long v53), .second, .val (.long v62), .second, .val (.long v66), .second, .val (.long v73), .second, .val (.long v80), .second, .val (.long v87), .second, .val (.int v104), .val (.int v134), .val (.int v160), .val (.int (0 : Int32)), .val (.ref a195), .val (.ref a201), .val (.ref a6), .val (.long v339), .second, .val (.long v370), .second, .val (.long v403), .second, .unset, .unset, .unset, .unset, .unset, .unset, .unset, .unset, .unset, .unset, .unset, .unset, .unset, .unset, .unset, .unset, .unset, .unset, .unset, .unset, .unset, .unset, .unset]) (pc' := 411) K at_409 rfl rfl ?_
  refine oW.iload (pc' := 413) K at_411 rfl rfl ?_
  obtain ⟨v413, ev413⟩ : ∃ t_ : Int64, t_ = v104.toInt64 := ⟨_, rfl⟩
  refine oW.i2l (pc' := 414) K at_413 ev413 rfl ?_
  have tv413 : v413.toInt = q0 := (oI2L ev413).trans tv104
  refine oW.lstore (Ls' := #[.val (.int p0), .val (.int p1), .val (.int p2), .val (.int p3), .val (.int p4), .val (.long (1099511627776 : Int64)), .second, .val (.int (3 : Int32)), .val (.int v18), .val (.int v26), .val (.int v35), .val (.long v44), .second, .val (.long v53), .second, .val (.long v62), .second, .val (.long v66), .second, .val (.long v73), .second, .val (.long v80), .second, .val (.long v87), .second, .val (.int v104), .val (.int v134), .val (.int v160), .val (.int (0 : Int32)), .val (.ref a195), .val (.ref a201), .val (.ref a6), .val (.long v339), .second, .val (.long v370), .second, .val (.long v403), .second, .val (.long v413), .second, .unset, .unset, .unset, .unset, .unset, .unset, .unset, .unset, .unset, .unset, .unset, .unset, .unset, .unset, .unset, .unset, .unset, .unset, .unset, .unset, .unset]) (pc' := 416) K at_414 rfl rfl ?_
  refine oW.iload (pc' := 418) K at_416 rfl rfl ?_
  refine oW.iconst (v := (1 : Int32)) (pc' := 419) K at_418 (by decide) rfl ?_
  refine oW.icmp_le (pc' := 428) (pc3 := 422) K at_419 (by decide) (by decide) rfl (fun q => absurd q (by decide)) (fun _ => ?_)
  refine oW.iload (pc' := 424) K at_422 rfl rfl ?_
  obtain ⟨v424, ev424⟩ : ∃ t_ : Int64, t_ = v134.toInt64 := ⟨_, rfl⟩
  refine oW.i2l (pc' := 425) K at_424 ev424 rfl ?_
  have tv424 : v424.toInt = q1 := (oI2L ev424).trans tv134
  refine oW.goto (pc' := 429) K at_425 (by decide) (by decide) ?_
  refine oW.lstore (Ls' := #[.val (.int p0), .val (.int p1), .val (.int p2), .val (.int p3), .val (.int p4), .val (.long (1099511627776 : Int64)), .second, .val (.int (3 : Int32)), .val (.int v18), .val (.int v26), .val (.int v35), .val (.long v44), .second, .val (.long v53), .second, .val (.long v62), .second, .val (.long v66), .second, .val (.long v73), .second, .val (.long v80), .second, .val (.long v87), .second, .val (.int v104), .val (.int v134), .val (.int v160), .val (.int (0 : Int32)), .val (.ref a195), .val (.ref a201), .val (.ref a6), .val (.long v339), .second, .val (.long v370), .second, .val (.long v403), .second, .val (.long v413), .second, .val (.long v424), .second, .unset, .unset, .unset, .unset, .unset, .unset, .unset, .unset, .unset, .unset, .unset, .unset, .unset, .unset, .unset, .unset, .unset, .unset, .unset]) (pc' := 431) K at_429 rfl rfl ?_
  refine oW.iload (pc' := 433) K at_431 rfl rfl ?_
  refine oW.iconst (v := (2 : Int32)) (pc' := 434) K at_433 (by decide) rfl ?_
  refine oW.icmp_le (pc' := 443) (pc3 := 437) K at_434 (by decide) (by decide) rfl (fun q => absurd q (by decide)) (fun _ => ?_)
  refine oW.iload (pc' := 439) K at_437 rfl rfl ?_
  obtain ⟨v439, ev439⟩ : ∃ t_ : Int64, t_ = v160.toInt64 := ⟨_, rfl⟩
  refine oW.i2l (pc' := 440) K at_439 ev439 rfl ?_
  have tv439 : v439.toInt = q2 := (oI2L ev439).trans hq2
  refine oW.goto (pc' := 444) K at_440 (by decide) (by decide) ?_
  refine oW.lstore (Ls' := #[.val (.int p0), .val (.int p1), .val (.int p2), .val (.int p3), .val (.int p4), .val (.long (1099511627776 : Int64)), .second, .val (.int (3 : Int32)), .val (.int v18), .val (.int v26), .val (.int v35), .val (.long v44), .second, .val (.long v53), .second, .val (.long v62), .second, .val (.long v66), .second, .val (.long v73), .second, .val (.long v80), .second, .val (.long v87), .second, .val (.int v104), .val (.int v134), .val (.int v160), .val (.int (0 : Int32)), .val (.ref a195), .val (.ref a201), .val (.ref a6), .val (.long v339), .second, .val (.long v370), .second, .val (.long v403), .second, .val (.long v413), .second, .val (.long v424), .second, .val (.long v439), .second, .unset, .unset, .unset, .unset, .unset, .unset, .unset, .unset, .unset, .unset, .unset, .unset, .unset, .unset, .unset, .unset, .unset]) (pc' := 446) K at_444 rfl rfl ?_
  refine oW.lload (pc' := 448) K at_446 rfl rfl ?_
  refine oW.lstore (Ls' := #[.val (.int p0), .val (.int p1), .val (.int p2), .val (.int p3), .val (.int p4), .val (.long (1099511627776 : Int64)), .second, .val (.int (3 : Int32)), .val (.int v18), .val (.int v26), .val (.int v35), .val (.long v44), .second, .val (.long v53), .second, .val (.long v62), .second, .val (.long v66), .second, .val (.long v73), .second, .val (.long v80), .second, .val (.long v87), .second, .val (.int v104), .val (.int v134), .val (.int v160), .val (.int (0 : Int32)), .val (.ref a195), .val (.ref a201), .val (.ref a6), .val (.long v339), .second, .val (.long v370), .second, .val (.long v403), .second, .val (.long v413), .second, .val (.long v424), .second, .val (.long v439), .second, .val (.long v339), .second, .unset, .unset, .unset, .unset, .unset, .unset, .unset, .unset, .unset, .unset, .unset, .unset, .unset, .unset, .unset]) (pc' := 450) K at_448 rfl rfl ?_
  refine oW.ldc2L (pc' := 453) K (hw _ (List.mem_of_getElem? (i := 16) rfl)) at_450 rfl ?_
  refine oW.lstore (Ls' := #[.val (.int p0), .val (.int p1), .val (.int p2), .val (.int p3), .val (.int p4), .val (.long (1099511627776 : Int64)), .second, .val (.int (3 : Int32)), .val (.int v18), .val (.int v26), .val (.int v35), .val (.long v44), .second, .val (.long v53), .second, .val (.long v62), .second, .val (.long v66), .second, .val (.long v73), .second, .val (.long v80), .second, .val (.long v87), .second, .val (.int v104), .val (.int v134), .val (.int v160), .val (.int (0 : Int32)), .val (.ref a195), .val (.ref a201), .val (.ref a6), .val (.long v339), .second, .val (.long v370), .second, .val (.long v403), .second, .val (.long v413), .second, .val (.long v424), .second, .val (.long v439), .second, .val (.long v339), .second, .val (.long (8 : Int64)), .second, .unset, .unset, .unset, .unset, .unset, .unset, .unset, .unset, .unset, .unset, .unset, .unset, .unset]) (pc' := 455) K at_453 rfl rfl ?_
  refine oW.lload (pc' := 457) K at_455 rfl rfl ?_
  refine oW.lstore (Ls' := #[.val (.int p0), .val (.int p1), .val (.int p2), .val (.int p3), .val (.int p4), .val (.long (1099511627776 : Int64)), .second, .val (.int (3 : Int32)), .val (.int v18), .val (.int v26), .val (.int v35), .val (.long v44), .second, .val (.long v53), .second, .val (.long v62), .second, .val (.long v66), .second, .val (.long v73), .second, .val (.long v80), .second, .val (.long v87), .second, .val (.int v104), .val (.int v134), .val (.int v160), .val (.int (0 : Int32)), .val (.ref a195), .val (.ref a201), .val (.ref a6), .val (.long v339), .second, .val (.long v370), .second, .val (.long v403), .second, .val (.long v413), .second, .val (.long v424), .second, .val (.long v439), .second, .val (.long v339), .second, .val (.long (8 : Int64)), .second, .val (.long v370), .second, .unset, .unset, .unset, .unset, .unset, .unset, .unset, .unset, .unset, .unset, .unset]) (pc' := 459) K at_457 rfl rfl ?_
  refine oW.ldc2L (pc' := 462) K (hw _ (List.mem_of_getElem? (i := 16) rfl)) at_459 rfl ?_
  refine oW.lstore (Ls' := #[.val (.int p0), .val (.int p1), .val (.int p2), .val (.int p3), .val (.int p4), .val (.long (1099511627776 : Int64)), .second, .val (.int (3 : Int32)), .val (.int v18), .val (.int v26), .val (.int v35), .val (.long v44), .second, .val (.long v53), .second, .val (.long v62), .second, .val (.long v66), .second, .val (.long v73), .second, .val (.long v80), .second, .val (.long v87), .second, .val (.int v104), .val (.int v134), .val (.int v160), .val (.int (0 : Int32)), .val (.ref a195), .val (.ref a201), .val (.ref a6), .val (.long v339), .second, .val (.long v370), .second, .val (.long v403), .second, .val (.long v413), .second, .val (.long v424), .second, .val (.long v439), .second, .val (.long v339), .second, .val (.long (8 : Int64)), .second, .val (.long v370), .second, .val (.long (8 : Int64)), .second, .unset, .unset, .unset, .unset, .unset, .unset, .unset, .unset, .unset]) (pc' := 464) K at_462 rfl rfl ?_
  refine oW.lload (pc' := 466) K at_464 rfl rfl ?_
  refine oW.lstore (Ls' := #[.val (.int p0), .val (.int p1), .val (.int p2), .val (.int p3), .val (.int p4), .val (.long (1099511627776 : Int64)), .second, .val (.int (3 : Int32)), .val (.int v18), .val (.int v26), .val (.int v35), .val (.long v44), .second, .val (.long v53), .second, .val (.long v62), .second, .val (.long v66), .second, .val (.long v73), .second, .val (.long v80), .second, .val (.long v87), .second, .val (.int v104), .val (.int v134), .val (.int v160), .val (.int (0 : Int32)), .val (.ref a195), .val (.ref a201), .val (.ref a6), .val (.long v339), .second, .val (.long v370), .second, .val (.long v403), .second, .val (.long v413), .second, .val (.long v424), .second, .val (.long v439), .second, .val (.long v339), .second, .val (.long (8 : Int64)), .second, .val (.long v370), .second, .val (.long (8 : Int64)), .second, .val (.long v403), .second, .unset, .unset, .unset, .unset, .unset, .unset, .unset]) (pc' := 468) K at_466 rfl rfl ?_
  refine oW.ldc2L (pc' := 471) K (hw _ (List.mem_of_getElem? (i := 16) rfl)) at_468 rfl ?_
  refine oW.lstore (Ls' := #[.val (.int p0), .val (.int p1), .val (.int p2), .val (.int p3), .val (.int p4), .val (.long (1099511627776 : Int64)), .second, .val (.int (3 : Int32)), .val (.int v18), .val (.int v26), .val (.int v35), .val (.long v44), .second, .val (.long v53), .second, .val (.long v62), .second, .val (.long v66), .second, .val (.long v73), .second, .val (.long v80), .second, .val (.long v87), .second, .val (.int v104), .val (.int v134), .val (.int v160), .val (.int (0 : Int32)), .val (.ref a195), .val (.ref a201), .val (.ref a6), .val (.long v339), .second, .val (.long v370), .second, .val (.long v403), .second, .val (.long v413), .second, .val (.long v424), .second, .val (.long v439), .second, .val (.long v339), .second, .val (.long (8 : Int64)), .second, .val (.long v370), .second, .val (.long (8 : Int64)), .second, .val (.long v403), .second, .val (.long (8 : Int64)), .second, .unset, .unset, .unset, .unset, .unset]) (pc' := 473) K at_471 rfl rfl ?_
  refine oW.lload (pc' := 475) K at_473 rfl rfl ?_
  refine oW.lload (pc' := 477) K at_475 rfl rfl ?_
  obtain ⟨v477, ev477⟩ : ∃ t_ : Int64, t_ = v413 * v339 := ⟨_, rfl⟩
  refine oW.lmul (pc' := 478) K at_477 ev477 rfl ?_
  have tv477 : v477.toInt = q0 * R0 := (oLmul ev477 (by rw [tv413, tv339]; omega)).trans (by rw [tv413, tv339])
  refine oW.lload (pc' := 480) K at_478 rfl rfl ?_
  refine oW.lload (pc' := 482) K at_480 rfl rfl ?_
  obtain ⟨v482, ev482⟩ : ∃ t_ : Int64, t_ = v424 * v370 := ⟨_, rfl⟩
  refine oW.lmul (pc' := 483) K at_482 ev482 rfl ?_
  have tv482 : v482.toInt = q1 * R1 := (oLmul ev482 (by rw [tv424, tv370]; omega)).trans (by rw [tv424, tv370])
  obtain ⟨v483, ev483⟩ : ∃ t_ : Int64, t_ = v477 + v482 := ⟨_, rfl⟩
  refine oW.ladd (pc' := 484) K at_483 ev483 rfl ?_
  have tv483 : v483.toInt = q0 * R0 + q1 * R1 := by have h1 := (tv477 : v477.toInt = _); have h2 := (tv482 : v482.toInt = _); have h := oLadd ev483 (by omega); omega
  refine oW.lload (pc' := 486) K at_484 rfl rfl ?_
  refine oW.lload (pc' := 488) K at_486 rfl rfl ?_
  obtain ⟨v488, ev488⟩ : ∃ t_ : Int64, t_ = v439 * v403 := ⟨_, rfl⟩
  refine oW.lmul (pc' := 489) K at_488 ev488 rfl ?_
  have tv488 : v488.toInt = q2 * R2 := (oLmul ev488 (by rw [tv439, tv403]; omega)).trans (by rw [tv439, tv403])
  obtain ⟨v489, ev489⟩ : ∃ t_ : Int64, t_ = v483 + v488 := ⟨_, rfl⟩
  refine oW.ladd (pc' := 490) K at_489 ev489 rfl ?_
  have tv489 : v489.toInt = q0 * R0 + q1 * R1 + q2 * R2 := by have h1 := (tv483 : v483.toInt = _); have h2 := (tv488 : v488.toInt = _); have h := oLadd ev489 (by omega); omega
  refine oW.lstore (Ls' := #[.val (.int p0), .val (.int p1), .val (.int p2), .val (.int p3), .val (.int p4), .val (.long (1099511627776 : Int64)), .second, .val (.int (3 : Int32)), .val (.int v18), .val (.int v26), .val (.int v35), .val (.long v44), .second, .val (.long v53), .second, .val (.long v62), .second, .val (.long v66), .second, .val (.long v73), .second, .val (.long v80), .second, .val (.long v87), .second, .val (.int v104), .val (.int v134), .val (.int v160), .val (.int (0 : Int32)), .val (.ref a195), .val (.ref a201), .val (.ref a6), .val (.long v339), .second, .val (.long v370), .second, .val (.long v403), .second, .val (.long v413), .second, .val (.long v424), .second, .val (.long v439), .second, .val (.long v339), .second, .val (.long (8 : Int64)), .second, .val (.long v370), .second, .val (.long (8 : Int64)), .second, .val (.long v403), .second, .val (.long (8 : Int64)), .second, .val (.long v489), .second, .unset, .unset, .unset]) (pc' := 492) K at_490 rfl rfl ?_
  refine oW.ldc2L (pc' := 495) K (hw _ (List.mem_of_getElem? (i := 16) rfl)) at_492 rfl ?_
  refine oW.lload (pc' := 497) K at_495 rfl rfl ?_
  refine oW.lload (pc' := 499) K at_497 rfl rfl ?_
  obtain ⟨v499, ev499⟩ : ∃ t_ : Int64, t_ = v413 + v424 := ⟨_, rfl⟩
  refine oW.ladd (pc' := 500) K at_499 ev499 rfl ?_
  have tv499 : v499.toInt = q0 + q1 := by have h1 := (tv413 : v413.toInt = _); have h2 := (tv424 : v424.toInt = _); have h := oLadd ev499 (by omega); omega
  refine oW.lload (pc' := 502) K at_500 rfl rfl ?_
  obtain ⟨v502, ev502⟩ : ∃ t_ : Int64, t_ = v499 + v439 := ⟨_, rfl⟩
  refine oW.ladd (pc' := 503) K at_502 ev502 rfl ?_
  have tv502 : v502.toInt = q0 + q1 + q2 := by have h1 := (tv499 : v499.toInt = _); have h2 := (tv439 : v439.toInt = _); have h := oLadd ev502 (by omega); omega
  obtain ⟨v503, ev503⟩ : ∃ t_ : Int64, t_ = (8 : Int64) * v502 := ⟨_, rfl⟩
  refine oW.lmul (pc' := 504) K at_503 ev503 rfl ?_
  have tv503 : v503.toInt = 8 * (q0 + q1 + q2) := (oLmul ev503 (by rw [(by decide : ((8 : Int64)).toInt = 8), tv502]; omega)).trans (by rw [(by decide : ((8 : Int64)).toInt = 8), tv502])
  refine oW.lstore (Ls' := #[.val (.int p0), .val (.int p1), .val (.int p2), .val (.int p3), .val (.int p4), .val (.long (1099511627776 : Int64)), .second, .val (.int (3 : Int32)), .val (.int v18), .val (.int v26), .val (.int v35), .val (.long v44), .second, .val (.long v53), .second, .val (.long v62), .second, .val (.long v66), .second, .val (.long v73), .second, .val (.long v80), .second, .val (.long v87), .second, .val (.int v104), .val (.int v134), .val (.int v160), .val (.int (0 : Int32)), .val (.ref a195), .val (.ref a201), .val (.ref a6), .val (.long v339), .second, .val (.long v370), .second, .val (.long v403), .second, .val (.long v413), .second, .val (.long v424), .second, .val (.long v439), .second, .val (.long v339), .second, .val (.long (8 : Int64)), .second, .val (.long v370), .second, .val (.long (8 : Int64)), .second, .val (.long v403), .second, .val (.long (8 : Int64)), .second, .val (.long v489), .second, .val (.long v503), .second, .unset]) (pc' := 506) K at_504 rfl rfl ?_
  try clear tv9
  try clear tv18
  try clear tv26
  try clear tv35
  try clear tv41
  try clear tv42
  try clear tv44
  try clear tv50
  try clear tv51
  try clear tv53
  try clear tv59
  try clear tv60
  try clear tv62
  try clear tv66
  try clear tv73
  try clear tv80
  try clear tv87
  try clear tv104
  try clear tv134
  try clear tv157
  try clear tv160
  try clear tv319
  try clear tv326
  try clear tv329
  try clear tv330
  try clear tv331
  try clear tv336
  try clear tv337
  try clear tv338
  try clear tv353
  try clear tv360
  try clear tv361
  try clear tv362
  try clear tv367
  try clear tv368
  try clear tv369
  try clear tv389
  try clear tv395
  try clear tv400
  try clear tv401
  try clear tv402
  try clear tv477
  try clear tv482
  try clear tv483
  try clear tv488
  try clear tv499
  try clear tv502
  have bR0 : -68719476736 ≤ R0 ∧ R0 ≤ 68719476736 := by omega
  have bR1 : -68719476736 ≤ R1 ∧ R1 ≤ 68719476736 := by omega
  have bR2 : -68719476736 ≤ R2 ∧ R2 ≤ 68719476736 := by omega
  have hm2' : R0 ≤ R2 ∧ R1 ≤ R2 := by omega
  try clear hP0
  try clear hP1
  try clear hP2
  try clear hPc0
  try clear hPc1
  try clear hPc2
  try clear hR0
  try clear hR1
  try clear hR2
  try clear hT0
  try clear hT1
  try clear hT2
  try clear bg1
  try clear bg2
  try clear bg3
  try clear du0
  try clear du1
  try clear du2
  try clear bc0
  try clear bc1
  try clear bc2
  try clear hqc0
  try clear hqc1
  try clear hqc2
  try clear hx0
  try clear hx1
  try clear hx2
  try clear hy0
  try clear hy1
  try clear hy2
  try clear bu0
  try clear bu1
  try clear bu2
  try clear hg1
  try clear hg2
  try clear hg3
  try clear hu0
  try clear hu1
  try clear hu2
  try clear hE0
  try clear hE1
  try clear hE2
  try clear bE0
  try clear bE1
  try clear bE2
  have hav := oAvg2 (q0 := q0) (q1 := q1) (R0 := R0) (R1 := R1) (X := R2) (by omega) (by omega) (by omega) (by omega)
  have hW01 := oMBw (W := q0 + q1) (R := R2) (by omega) (by omega)
  rcases hir with ⟨z1, q0v, q1v⟩ | ⟨z1, q0v, rfl⟩
  · refine oW.lload (pc' := 508) K at_506 rfl rfl ?_
    refine oW.lload (pc' := 510) K at_508 rfl rfl ?_
    obtain ⟨v510, ev510⟩ : ∃ t_ : Int32, t_ = XT.cmpL v339 v370 := ⟨_, rfl⟩
    refine oW.lcmp (pc' := 511) K at_510 ev510 rfl ?_
    refine oW.if_gt (pc' := 607) (pc3 := 514) K at_511 (by decide) (by decide) rfl (fun q => absurd ((oLcmp ev510).2.2.mp q) (by have := (tv339 : v339.toInt = _); have := (tv370 : v370.toInt = _); omega)) (fun c511 => ?_)
    refine oW.lload (pc' := 516) K at_514 rfl rfl ?_
    refine oW.lload (pc' := 518) K at_516 rfl rfl ?_
    obtain ⟨v518, ev518⟩ : ∃ t_ : Int32, t_ = XT.cmpL v370 v403 := ⟨_, rfl⟩
    refine oW.lcmp (pc' := 519) K at_518 ev518 rfl ?_
    refine oW.if_le (pc' := 689) (pc3 := 522) K at_519 (by decide) (by decide) rfl (fun c519 => ?_) (fun q => absurd ((oLcmp ev518).2.2.mp q) (by have := (tv370 : v370.toInt = _); have := (tv403 : v403.toInt = _); omega))
    refine oW.aload (pc' := 691) K at_689 rfl rfl rfl ?_
    refine oW.iconst (v := (0 : Int32)) (pc' := 692) K at_691 (by decide) rfl ?_
    refine oW.daload (i := 6) (k := 0) (pc' := 693) K at_692 rfl rfl (by decide) rfl rfl ?_
    refine oW.lload (pc' := 695) K at_693 rfl rfl ?_
    refine oW.lload (pc' := 697) K at_695 rfl rfl ?_
    refine oW.callS (argsL := [(.double v0), (.long v339), (.long (8 : Int64))]) (S := []) (rm := ({ frames := 0, cells := 0, slots := 0, locals := 0 } : Room)) (W := 0) (cells' := 7) (slots' := 26) (pc' := 700) K (hw _ (List.mem_of_getElem? (i := 17) rfl)) (hw _ (List.mem_of_getElem? (i := 18) rfl)) (hw _ (List.mem_of_getElem? (i := 19) rfl)) (hw _ (List.mem_of_getElem? (i := 20) rfl)) (by decide) (own_sameQ hw q0v (tv339) ((by decide : ((8 : Int64)).toInt = 8)) (by omega)) (lenOf pd_3 rfl) at_697 rfl rfl (Nat.le_of_eq rfl) (by decide) (by decide) (by decide) (by decide) rfl rfl rfl ?_
    rintro _ _ ⟨rfl, rfl⟩
    refine oW.istore (Ls' := #[.val (.int p0), .val (.int p1), .val (.int p2), .val (.int p3), .val (.int p4), .val (.long (1099511627776 : Int64)), .second, .val (.int (3 : Int32)), .val (.int v18), .val (.int v26), .val (.int v35), .val (.long v44), .second, .val (.long v53), .second, .val (.long v62), .second, .val (.long v66), .second, .val (.long v73), .second, .val (.long v80), .second, .val (.long v87), .second, .val (.int v104), .val (.int v134), .val (.int v160), .val (.int (0 : Int32)), .val (.ref a195), .val (.ref a201), .val (.ref a6), .val (.long v339), .second, .val (.long v370), .second, .val (.long v403), .second, .val (.long v413), .second, .val (.long v424), .second, .val (.long v439), .second, .val (.long v339), .second, .val (.long (8 : Int64)), .second, .val (.long v370), .second, .val (.long (8 : Int64)), .second, .val (.long v403), .second, .val (.long (8 : Int64)), .second, .val (.long v489), .second, .val (.long v503), .second, .val (.int (1 : Int32))]) (pc' := 702) K at_700 rfl rfl ?_
    refine oW.iload (pc' := 704) K at_702 rfl rfl ?_
    refine oW.iconst (v := (1 : Int32)) (pc' := 705) K at_704 (by decide) rfl ?_
    refine oW.icmp_le (pc' := 734) (pc3 := 708) K at_705 (by decide) (by decide) rfl (fun q => absurd q (by decide)) (fun _ => ?_)
    refine oW.iload (pc' := 710) K at_708 rfl rfl ?_
    refine oW.if_eq (pc' := 731) (pc3 := 713) K at_710 (by decide) (by decide) rfl (fun q => absurd q (by decide)) (fun _ => ?_)
    refine oW.aload (pc' := 715) K at_713 rfl rfl rfl ?_
    refine oW.iconst (v := (1 : Int32)) (pc' := 716) K at_715 (by decide) rfl ?_
    refine oW.daload (i := 6) (k := 1) (pc' := 717) K at_716 rfl rfl (by decide) rfl rfl ?_
    refine oW.lload (pc' := 719) K at_717 rfl rfl ?_
    refine oW.lload (pc' := 721) K at_719 rfl rfl ?_
    refine oW.callS (argsL := [(.double v1), (.long v370), (.long (8 : Int64))]) (S := []) (rm := ({ frames := 0, cells := 0, slots := 0, locals := 0 } : Room)) (W := 0) (cells' := 7) (slots' := 26) (pc' := 724) K (hw _ (List.mem_of_getElem? (i := 17) rfl)) (hw _ (List.mem_of_getElem? (i := 18) rfl)) (hw _ (List.mem_of_getElem? (i := 19) rfl)) (hw _ (List.mem_of_getElem? (i := 20) rfl)) (by decide) (own_sameQ hw q1v (tv370) ((by decide : ((8 : Int64)).toInt = 8)) (by omega)) (lenOf pd_3 rfl) at_721 rfl rfl (Nat.le_of_eq rfl) (by decide) (by decide) (by decide) (by decide) rfl rfl rfl ?_
    rintro _ _ ⟨rfl, rfl⟩
    refine oW.if_eq (pc' := 731) (pc3 := 727) K at_724 (by decide) (by decide) rfl (fun q => absurd q (by decide)) (fun _ => ?_)
    refine oW.iconst (v := (1 : Int32)) (pc' := 728) K at_727 (by decide) rfl ?_
    refine oW.goto (pc' := 732) K at_728 (by decide) (by decide) ?_
    refine oW.istore (Ls' := #[.val (.int p0), .val (.int p1), .val (.int p2), .val (.int p3), .val (.int p4), .val (.long (1099511627776 : Int64)), .second, .val (.int (3 : Int32)), .val (.int v18), .val (.int v26), .val (.int v35), .val (.long v44), .second, .val (.long v53), .second, .val (.long v62), .second, .val (.long v66), .second, .val (.long v73), .second, .val (.long v80), .second, .val (.long v87), .second, .val (.int v104), .val (.int v134), .val (.int v160), .val (.int (0 : Int32)), .val (.ref a195), .val (.ref a201), .val (.ref a6), .val (.long v339), .second, .val (.long v370), .second, .val (.long v403), .second, .val (.long v413), .second, .val (.long v424), .second, .val (.long v439), .second, .val (.long v339), .second, .val (.long (8 : Int64)), .second, .val (.long v370), .second, .val (.long (8 : Int64)), .second, .val (.long v403), .second, .val (.long (8 : Int64)), .second, .val (.long v489), .second, .val (.long v503), .second, .val (.int (1 : Int32))]) (pc' := 734) K at_732 rfl rfl ?_
    refine oW.iload (pc' := 736) K at_734 rfl rfl ?_
    refine oW.iconst (v := (2 : Int32)) (pc' := 737) K at_736 (by decide) rfl ?_
    refine oW.icmp_le (pc' := 766) (pc3 := 740) K at_737 (by decide) (by decide) rfl (fun q => absurd q (by decide)) (fun _ => ?_)
    refine oW.iload (pc' := 742) K at_740 rfl rfl ?_
    refine oW.if_eq (pc' := 763) (pc3 := 745) K at_742 (by decide) (by decide) rfl (fun q => absurd q (by decide)) (fun _ => ?_)
    refine oW.aload (pc' := 747) K at_745 rfl rfl rfl ?_
    refine oW.iconst (v := (2 : Int32)) (pc' := 748) K at_747 (by decide) rfl ?_
    refine oW.daload (i := 6) (k := 2) (pc' := 749) K at_748 rfl rfl (by decide) rfl rfl ?_
    refine oW.lload (pc' := 751) K at_749 rfl rfl ?_
    refine oW.lload (pc' := 753) K at_751 rfl rfl ?_
    refine oW.callS (argsL := [(.double v2), (.long v403), (.long (8 : Int64))]) (S := []) (rm := ({ frames := 0, cells := 0, slots := 0, locals := 0 } : Room)) (W := 0) (cells' := 7) (slots' := 26) (pc' := 756) K (hw _ (List.mem_of_getElem? (i := 17) rfl)) (hw _ (List.mem_of_getElem? (i := 18) rfl)) (hw _ (List.mem_of_getElem? (i := 19) rfl)) (hw _ (List.mem_of_getElem? (i := 20) rfl)) (by decide) (own_sameQ hw q2v (tv403) ((by decide : ((8 : Int64)).toInt = 8)) (by omega)) (lenOf pd_3 rfl) at_753 rfl rfl (Nat.le_of_eq rfl) (by decide) (by decide) (by decide) (by decide) rfl rfl rfl ?_
    rintro _ _ ⟨rfl, rfl⟩
    refine oW.if_eq (pc' := 763) (pc3 := 759) K at_756 (by decide) (by decide) rfl (fun q => absurd q (by decide)) (fun _ => ?_)
    refine oW.iconst (v := (1 : Int32)) (pc' := 760) K at_759 (by decide) rfl ?_
    refine oW.goto (pc' := 764) K at_760 (by decide) (by decide) ?_
    refine oW.istore (Ls' := #[.val (.int p0), .val (.int p1), .val (.int p2), .val (.int p3), .val (.int p4), .val (.long (1099511627776 : Int64)), .second, .val (.int (3 : Int32)), .val (.int v18), .val (.int v26), .val (.int v35), .val (.long v44), .second, .val (.long v53), .second, .val (.long v62), .second, .val (.long v66), .second, .val (.long v73), .second, .val (.long v80), .second, .val (.long v87), .second, .val (.int v104), .val (.int v134), .val (.int v160), .val (.int (0 : Int32)), .val (.ref a195), .val (.ref a201), .val (.ref a6), .val (.long v339), .second, .val (.long v370), .second, .val (.long v403), .second, .val (.long v413), .second, .val (.long v424), .second, .val (.long v439), .second, .val (.long v339), .second, .val (.long (8 : Int64)), .second, .val (.long v370), .second, .val (.long (8 : Int64)), .second, .val (.long v403), .second, .val (.long (8 : Int64)), .second, .val (.long v489), .second, .val (.long v503), .second, .val (.int (1 : Int32))]) (pc' := 766) K at_764 rfl rfl ?_
    refine oW.iload (pc' := 768) K at_766 rfl rfl ?_
    refine oW.iconst (v := (3 : Int32)) (pc' := 769) K at_768 (by decide) rfl ?_
    refine oW.icmp_le (pc' := 795) (pc3 := 772) K at_769 (by decide) (by decide) rfl (fun _ => ?_) (fun q => absurd q (by decide))
    refine oW.iload (pc' := 797) K at_795 rfl rfl ?_
    exact oW.retB K rfl at_797 (by decide) (by decide) ⟨_, rfl, rfl⟩
  · refine oW.lload (pc' := 508) K at_506 rfl rfl ?_
    refine oW.lload (pc' := 510) K at_508 rfl rfl ?_
    obtain ⟨v510, ev510⟩ : ∃ t_ : Int32, t_ = XT.cmpL v339 v370 := ⟨_, rfl⟩
    refine oW.lcmp (pc' := 511) K at_510 ev510 rfl ?_
    refine oW.if_gt (pc' := 607) (pc3 := 514) K at_511 (by decide) (by decide) rfl (fun c511 => ?_) (fun q => absurd q (by rw [(oLcmp ev510).2.2]; have := (tv339 : v339.toInt = _); have := (tv370 : v370.toInt = _); omega))
    refine oW.lload (pc' := 609) K at_607 rfl rfl ?_
    refine oW.lload (pc' := 611) K at_609 rfl rfl ?_
    obtain ⟨v611, ev611⟩ : ∃ t_ : Int64, t_ = v413 * v339 := ⟨_, rfl⟩
    refine oW.lmul (pc' := 612) K at_611 ev611 rfl ?_
    have tv611 : v611.toInt = q0 * R0 := (oLmul ev611 (by rw [tv413, tv339]; omega)).trans (by rw [tv413, tv339])
    refine oW.lload (pc' := 614) K at_612 rfl rfl ?_
    refine oW.lload (pc' := 616) K at_614 rfl rfl ?_
    obtain ⟨v616, ev616⟩ : ∃ t_ : Int64, t_ = v424 * v370 := ⟨_, rfl⟩
    refine oW.lmul (pc' := 617) K at_616 ev616 rfl ?_
    have tv616 : v616.toInt = q1 * R1 := (oLmul ev616 (by rw [tv424, tv370]; omega)).trans (by rw [tv424, tv370])
    obtain ⟨v617, ev617⟩ : ∃ t_ : Int64, t_ = v611 + v616 := ⟨_, rfl⟩
    refine oW.ladd (pc' := 618) K at_617 ev617 rfl ?_
    have tv617 : v617.toInt = q0 * R0 + q1 * R1 := by have h1 := (tv611 : v611.toInt = _); have h2 := (tv616 : v616.toInt = _); have h := oLadd ev617 (by omega); omega
    refine oW.lload (pc' := 620) K at_618 rfl rfl ?_
    refine oW.lload (pc' := 622) K at_620 rfl rfl ?_
    refine oW.lload (pc' := 624) K at_622 rfl rfl ?_
    obtain ⟨v624, ev624⟩ : ∃ t_ : Int64, t_ = v413 + v424 := ⟨_, rfl⟩
    refine oW.ladd (pc' := 625) K at_624 ev624 rfl ?_
    have tv624 : v624.toInt = q0 + q1 := by have h1 := (tv413 : v413.toInt = _); have h2 := (tv424 : v424.toInt = _); have h := oLadd ev624 (by omega); omega
    obtain ⟨v625, ev625⟩ : ∃ t_ : Int64, t_ = v403 * v624 := ⟨_, rfl⟩
    refine oW.lmul (pc' := 626) K at_625 ev625 rfl ?_
    have tv625 : v625.toInt = R2 * (q0 + q1) := (oLmul ev625 (by rw [tv403, tv624]; omega)).trans (by rw [tv403, tv624])
    obtain ⟨v626, ev626⟩ : ∃ t_ : Int32, t_ = XT.cmpL v617 v625 := ⟨_, rfl⟩
    refine oW.lcmp (pc' := 627) K at_626 ev626 rfl ?_
    refine oW.if_gt (pc' := 665) (pc3 := 630) K at_627 (by decide) (by decide) rfl (fun q => absurd ((oLcmp ev626).2.2.mp q) (by have := (tv617 : v617.toInt = _); have := (tv625 : v625.toInt = _); omega)) (fun c627 => ?_)
    refine oW.lload (pc' := 632) K at_630 rfl rfl ?_
    refine oW.lload (pc' := 634) K at_632 rfl rfl ?_
    obtain ⟨v634, ev634⟩ : ∃ t_ : Int64, t_ = v413 * v339 := ⟨_, rfl⟩
    refine oW.lmul (pc' := 635) K at_634 ev634 rfl ?_
    have tv634 : v634.toInt = q0 * R0 := (oLmul ev634 (by rw [tv413, tv339]; omega)).trans (by rw [tv413, tv339])
    refine oW.lload (pc' := 637) K at_635 rfl rfl ?_
    refine oW.lload (pc' := 639) K at_637 rfl rfl ?_
    obtain ⟨v639, ev639⟩ : ∃ t_ : Int64, t_ = v424 * v370 := ⟨_, rfl⟩
    refine oW.lmul (pc' := 640) K at_639 ev639 rfl ?_
    have tv639 : v639.toInt = q1 * R1 := (oLmul ev639 (by rw [tv424, tv370]; omega)).trans (by rw [tv424, tv370])
    obtain ⟨v640, ev640⟩ : ∃ t_ : Int64, t_ = v634 + v639 := ⟨_, rfl⟩
    refine oW.ladd (pc' := 641) K at_640 ev640 rfl ?_
    have tv640 : v640.toInt = q0 * R0 + q1 * R1 := by have h1 := (tv634 : v634.toInt = _); have h2 := (tv639 : v639.toInt = _); have h := oLadd ev640 (by omega); omega
    refine oW.lstore (Ls' := #[.val (.int p0), .val (.int p1), .val (.int p2), .val (.int p3), .val (.int p4), .val (.long (1099511627776 : Int64)), .second, .val (.int (3 : Int32)), .val (.int v18), .val (.int v26), .val (.int v35), .val (.long v44), .second, .val (.long v53), .second, .val (.long v62), .second, .val (.long v66), .second, .val (.long v73), .second, .val (.long v80), .second, .val (.long v87), .second, .val (.int v104), .val (.int v134), .val (.int v160), .val (.int (0 : Int32)), .val (.ref a195), .val (.ref a201), .val (.ref a6), .val (.long v339), .second, .val (.long v370), .second, .val (.long v403), .second, .val (.long v413), .second, .val (.long v424), .second, .val (.long v439), .second, .val (.long v640), .second, .val (.long (8 : Int64)), .second, .val (.long v370), .second, .val (.long (8 : Int64)), .second, .val (.long v403), .second, .val (.long (8 : Int64)), .second, .val (.long v489), .second, .val (.long v503), .second, .unset]) (pc' := 643) K at_641 rfl rfl ?_
    refine oW.ldc2L (pc' := 646) K (hw _ (List.mem_of_getElem? (i := 16) rfl)) at_643 rfl ?_
    refine oW.lload (pc' := 648) K at_646 rfl rfl ?_
    refine oW.lload (pc' := 650) K at_648 rfl rfl ?_
    obtain ⟨v650, ev650⟩ : ∃ t_ : Int64, t_ = v413 + v424 := ⟨_, rfl⟩
    refine oW.ladd (pc' := 651) K at_650 ev650 rfl ?_
    have tv650 : v650.toInt = q0 + q1 := by have h1 := (tv413 : v413.toInt = _); have h2 := (tv424 : v424.toInt = _); have h := oLadd ev650 (by omega); omega
    obtain ⟨v651, ev651⟩ : ∃ t_ : Int64, t_ = (8 : Int64) * v650 := ⟨_, rfl⟩
    refine oW.lmul (pc' := 652) K at_651 ev651 rfl ?_
    have tv651 : v651.toInt = 8 * (q0 + q1) := (oLmul ev651 (by rw [(by decide : ((8 : Int64)).toInt = 8), tv650]; omega)).trans (by rw [(by decide : ((8 : Int64)).toInt = 8), tv650])
    refine oW.lstore (Ls' := #[.val (.int p0), .val (.int p1), .val (.int p2), .val (.int p3), .val (.int p4), .val (.long (1099511627776 : Int64)), .second, .val (.int (3 : Int32)), .val (.int v18), .val (.int v26), .val (.int v35), .val (.long v44), .second, .val (.long v53), .second, .val (.long v62), .second, .val (.long v66), .second, .val (.long v73), .second, .val (.long v80), .second, .val (.long v87), .second, .val (.int v104), .val (.int v134), .val (.int v160), .val (.int (0 : Int32)), .val (.ref a195), .val (.ref a201), .val (.ref a6), .val (.long v339), .second, .val (.long v370), .second, .val (.long v403), .second, .val (.long v413), .second, .val (.long v424), .second, .val (.long v439), .second, .val (.long v640), .second, .val (.long v651), .second, .val (.long v370), .second, .val (.long (8 : Int64)), .second, .val (.long v403), .second, .val (.long (8 : Int64)), .second, .val (.long v489), .second, .val (.long v503), .second, .unset]) (pc' := 654) K at_652 rfl rfl ?_
    refine oW.lload (pc' := 656) K at_654 rfl rfl ?_
    refine oW.lstore (Ls' := #[.val (.int p0), .val (.int p1), .val (.int p2), .val (.int p3), .val (.int p4), .val (.long (1099511627776 : Int64)), .second, .val (.int (3 : Int32)), .val (.int v18), .val (.int v26), .val (.int v35), .val (.long v44), .second, .val (.long v53), .second, .val (.long v62), .second, .val (.long v66), .second, .val (.long v73), .second, .val (.long v80), .second, .val (.long v87), .second, .val (.int v104), .val (.int v134), .val (.int v160), .val (.int (0 : Int32)), .val (.ref a195), .val (.ref a201), .val (.ref a6), .val (.long v339), .second, .val (.long v370), .second, .val (.long v403), .second, .val (.long v413), .second, .val (.long v424), .second, .val (.long v439), .second, .val (.long v640), .second, .val (.long v651), .second, .val (.long v640), .second, .val (.long (8 : Int64)), .second, .val (.long v403), .second, .val (.long (8 : Int64)), .second, .val (.long v489), .second, .val (.long v503), .second, .unset]) (pc' := 658) K at_656 rfl rfl ?_
    refine oW.lload (pc' := 660) K at_658 rfl rfl ?_
    refine oW.lstore (Ls' := #[.val (.int p0), .val (.int p1), .val (.int p2), .val (.int p3), .val (.int p4), .val (.long (1099511627776 : Int64)), .second, .val (.int (3 : Int32)), .val (.int v18), .val (.int v26), .val (.int v35), .val (.long v44), .second, .val (.long v53), .second, .val (.long v62), .second, .val (.long v66), .second, .val (.long v73), .second, .val (.long v80), .second, .val (.long v87), .second, .val (.int v104), .val (.int v134), .val (.int v160), .val (.int (0 : Int32)), .val (.ref a195), .val (.ref a201), .val (.ref a6), .val (.long v339), .second, .val (.long v370), .second, .val (.long v403), .second, .val (.long v413), .second, .val (.long v424), .second, .val (.long v439), .second, .val (.long v640), .second, .val (.long v651), .second, .val (.long v640), .second, .val (.long v651), .second, .val (.long v403), .second, .val (.long (8 : Int64)), .second, .val (.long v489), .second, .val (.long v503), .second, .unset]) (pc' := 662) K at_660 rfl rfl ?_
    refine oW.goto (pc' := 689) K at_662 (by decide) (by decide) ?_
    refine oW.aload (pc' := 691) K at_689 rfl rfl rfl ?_
    refine oW.iconst (v := (0 : Int32)) (pc' := 692) K at_691 (by decide) rfl ?_
    refine oW.daload (i := 6) (k := 0) (pc' := 693) K at_692 rfl rfl (by decide) rfl rfl ?_
    refine oW.lload (pc' := 695) K at_693 rfl rfl ?_
    refine oW.lload (pc' := 697) K at_695 rfl rfl ?_
    refine oW.callS (argsL := [(.double v0), (.long v640), (.long v651)]) (S := []) (rm := ({ frames := 0, cells := 0, slots := 0, locals := 0 } : Room)) (W := 0) (cells' := 7) (slots' := 26) (pc' := 700) K (hw _ (List.mem_of_getElem? (i := 17) rfl)) (hw _ (List.mem_of_getElem? (i := 18) rfl)) (hw _ (List.mem_of_getElem? (i := 19) rfl)) (hw _ (List.mem_of_getElem? (i := 20) rfl)) (by decide) (own_sameD hw q0v (by have := (tv640 : v640.toInt = _); omega) (by have := (tv651 : v651.toInt = _); omega) (by omega) (by omega)) (lenOf pd_3 rfl) at_697 rfl rfl (Nat.le_of_eq rfl) (by decide) (by decide) (by decide) (by decide) rfl rfl rfl ?_
    rintro _ _ ⟨rfl, rfl⟩
    refine oW.istore (Ls' := #[.val (.int p0), .val (.int p1), .val (.int p2), .val (.int p3), .val (.int p4), .val (.long (1099511627776 : Int64)), .second, .val (.int (3 : Int32)), .val (.int v18), .val (.int v26), .val (.int v35), .val (.long v44), .second, .val (.long v53), .second, .val (.long v62), .second, .val (.long v66), .second, .val (.long v73), .second, .val (.long v80), .second, .val (.long v87), .second, .val (.int v104), .val (.int v134), .val (.int v160), .val (.int (0 : Int32)), .val (.ref a195), .val (.ref a201), .val (.ref a6), .val (.long v339), .second, .val (.long v370), .second, .val (.long v403), .second, .val (.long v413), .second, .val (.long v424), .second, .val (.long v439), .second, .val (.long v640), .second, .val (.long v651), .second, .val (.long v640), .second, .val (.long v651), .second, .val (.long v403), .second, .val (.long (8 : Int64)), .second, .val (.long v489), .second, .val (.long v503), .second, .val (.int (1 : Int32))]) (pc' := 702) K at_700 rfl rfl ?_
    refine oW.iload (pc' := 704) K at_702 rfl rfl ?_
    refine oW.iconst (v := (1 : Int32)) (pc' := 705) K at_704 (by decide) rfl ?_
    refine oW.icmp_le (pc' := 734) (pc3 := 708) K at_705 (by decide) (by decide) rfl (fun q => absurd q (by decide)) (fun _ => ?_)
    refine oW.iload (pc' := 710) K at_708 rfl rfl ?_
    refine oW.if_eq (pc' := 731) (pc3 := 713) K at_710 (by decide) (by decide) rfl (fun q => absurd q (by decide)) (fun _ => ?_)
    refine oW.aload (pc' := 715) K at_713 rfl rfl rfl ?_
    refine oW.iconst (v := (1 : Int32)) (pc' := 716) K at_715 (by decide) rfl ?_
    refine oW.daload (i := 6) (k := 1) (pc' := 717) K at_716 rfl rfl (by decide) rfl rfl ?_
    refine oW.lload (pc' := 719) K at_717 rfl rfl ?_
    refine oW.lload (pc' := 721) K at_719 rfl rfl ?_
    refine oW.callS (argsL := [(.double v0), (.long v640), (.long v651)]) (S := []) (rm := ({ frames := 0, cells := 0, slots := 0, locals := 0 } : Room)) (W := 0) (cells' := 7) (slots' := 26) (pc' := 724) K (hw _ (List.mem_of_getElem? (i := 17) rfl)) (hw _ (List.mem_of_getElem? (i := 18) rfl)) (hw _ (List.mem_of_getElem? (i := 19) rfl)) (hw _ (List.mem_of_getElem? (i := 20) rfl)) (by decide) (own_sameD hw q0v (by have := (tv640 : v640.toInt = _); omega) (by have := (tv651 : v651.toInt = _); omega) (by omega) (by omega)) (lenOf pd_3 rfl) at_721 rfl rfl (Nat.le_of_eq rfl) (by decide) (by decide) (by decide) (by decide) rfl rfl rfl ?_
    rintro _ _ ⟨rfl, rfl⟩
    refine oW.if_eq (pc' := 731) (pc3 := 727) K at_724 (by decide) (by decide) rfl (fun q => absurd q (by decide)) (fun _ => ?_)
    refine oW.iconst (v := (1 : Int32)) (pc' := 728) K at_727 (by decide) rfl ?_
    refine oW.goto (pc' := 732) K at_728 (by decide) (by decide) ?_
    refine oW.istore (Ls' := #[.val (.int p0), .val (.int p1), .val (.int p2), .val (.int p3), .val (.int p4), .val (.long (1099511627776 : Int64)), .second, .val (.int (3 : Int32)), .val (.int v18), .val (.int v26), .val (.int v35), .val (.long v44), .second, .val (.long v53), .second, .val (.long v62), .second, .val (.long v66), .second, .val (.long v73), .second, .val (.long v80), .second, .val (.long v87), .second, .val (.int v104), .val (.int v134), .val (.int v160), .val (.int (0 : Int32)), .val (.ref a195), .val (.ref a201), .val (.ref a6), .val (.long v339), .second, .val (.long v370), .second, .val (.long v403), .second, .val (.long v413), .second, .val (.long v424), .second, .val (.long v439), .second, .val (.long v640), .second, .val (.long v651), .second, .val (.long v640), .second, .val (.long v651), .second, .val (.long v403), .second, .val (.long (8 : Int64)), .second, .val (.long v489), .second, .val (.long v503), .second, .val (.int (1 : Int32))]) (pc' := 734) K at_732 rfl rfl ?_
    refine oW.iload (pc' := 736) K at_734 rfl rfl ?_
    refine oW.iconst (v := (2 : Int32)) (pc' := 737) K at_736 (by decide) rfl ?_
    refine oW.icmp_le (pc' := 766) (pc3 := 740) K at_737 (by decide) (by decide) rfl (fun q => absurd q (by decide)) (fun _ => ?_)
    refine oW.iload (pc' := 742) K at_740 rfl rfl ?_
    refine oW.if_eq (pc' := 763) (pc3 := 745) K at_742 (by decide) (by decide) rfl (fun q => absurd q (by decide)) (fun _ => ?_)
    refine oW.aload (pc' := 747) K at_745 rfl rfl rfl ?_
    refine oW.iconst (v := (2 : Int32)) (pc' := 748) K at_747 (by decide) rfl ?_
    refine oW.daload (i := 6) (k := 2) (pc' := 749) K at_748 rfl rfl (by decide) rfl rfl ?_
    refine oW.lload (pc' := 751) K at_749 rfl rfl ?_
    refine oW.lload (pc' := 753) K at_751 rfl rfl ?_
    refine oW.callS (argsL := [(.double v2), (.long v403), (.long (8 : Int64))]) (S := []) (rm := ({ frames := 0, cells := 0, slots := 0, locals := 0 } : Room)) (W := 0) (cells' := 7) (slots' := 26) (pc' := 756) K (hw _ (List.mem_of_getElem? (i := 17) rfl)) (hw _ (List.mem_of_getElem? (i := 18) rfl)) (hw _ (List.mem_of_getElem? (i := 19) rfl)) (hw _ (List.mem_of_getElem? (i := 20) rfl)) (by decide) (own_sameQ hw q2v (tv403) ((by decide : ((8 : Int64)).toInt = 8)) (by omega)) (lenOf pd_3 rfl) at_753 rfl rfl (Nat.le_of_eq rfl) (by decide) (by decide) (by decide) (by decide) rfl rfl rfl ?_
    rintro _ _ ⟨rfl, rfl⟩
    refine oW.if_eq (pc' := 763) (pc3 := 759) K at_756 (by decide) (by decide) rfl (fun q => absurd q (by decide)) (fun _ => ?_)
    refine oW.iconst (v := (1 : Int32)) (pc' := 760) K at_759 (by decide) rfl ?_
    refine oW.goto (pc' := 764) K at_760 (by decide) (by decide) ?_
    refine oW.istore (Ls' := #[.val (.int p0), .val (.int p1), .val (.int p2), .val (.int p3), .val (.int p4), .val (.long (1099511627776 : Int64)), .second, .val (.int (3 : Int32)), .val (.int v18), .val (.int v26), .val (.int v35), .val (.long v44), .second, .val (.long v53), .second, .val (.long v62), .second, .val (.long v66), .second, .val (.long v73), .second, .val (.long v80), .second, .val (.long v87), .second, .val (.int v104), .val (.int v134), .val (.int v160), .val (.int (0 : Int32)), .val (.ref a195), .val (.ref a201), .val (.ref a6), .val (.long v339), .second, .val (.long v370), .second, .val (.long v403), .second, .val (.long v413), .second, .val (.long v424), .second, .val (.long v439), .second, .val (.long v640), .second, .val (.long v651), .second, .val (.long v640), .second, .val (.long v651), .second, .val (.long v403), .second, .val (.long (8 : Int64)), .second, .val (.long v489), .second, .val (.long v503), .second, .val (.int (1 : Int32))]) (pc' := 766) K at_764 rfl rfl ?_
    refine oW.iload (pc' := 768) K at_766 rfl rfl ?_
    refine oW.iconst (v := (3 : Int32)) (pc' := 769) K at_768 (by decide) rfl ?_
    refine oW.icmp_le (pc' := 795) (pc3 := 772) K at_769 (by decide) (by decide) rfl (fun _ => ?_) (fun q => absurd q (by decide))
    refine oW.iload (pc' := 797) K at_795 rfl rfl ?_
    exact oW.retB K rfl at_797 (by decide) (by decide) ⟨_, rfl, rfl⟩
set_option maxRecDepth 65536 in
set_option maxHeartbeats 40000000 in
theorem own_law_4 {l : Launch} {Z : State} {a0 : Array Value} {h0 : Heap} (hw : ∀ d ∈ tables_1, d.before a0 Z = true) (p0 : Int32) (p1 : Int32) (p2 : Int32) (p3 : Int32) (p4 : Int32) {p : Program} {e : Env} {s : State} {m : MethodId} {below : List Frame} {meth : Method} {c : Code} (K : oK p s m meth c Z x.cls code maxLocals ret x.name) :
    oW p l e room_1 s m #[(.int p0), (.int p1), (.int p2), (.int p3), (.int p4)] below meth c Z h0 (oVal fun w _ => w = .int 1) [] 0 0 10 #[.val (.int p0), .val (.int p1), .val (.int p2), .val (.int p3), .val (.int p4), .val (.long (1099511627776 : Int64)), .second, .unset, .unset, .unset, .unset, .unset, .unset, .unset, .unset, .unset, .unset, .unset, .unset, .unset, .unset, .unset, .unset, .unset, .unset, .unset, .unset, .unset, .unset, .unset, .unset, .unset, .unset, .unset, .unset, .unset, .unset, .unset, .unset, .unset, .unset, .unset, .unset, .unset, .unset, .unset, .unset, .unset, .unset, .unset, .unset, .unset, .unset, .unset, .unset, .unset, .unset, .unset, .unset, .unset, .unset] [(.int (3 : Int32)), (.int (1 : Int32))] := by
  refine oW.iadd (v := (4 : Int32)) (pc' := 11) K at_10 (by decide) rfl ?_
  refine oW.istore (Ls' := #[.val (.int p0), .val (.int p1), .val (.int p2), .val (.int p3), .val (.int p4), .val (.long (1099511627776 : Int64)), .second, .val (.int (4 : Int32)), .unset, .unset, .unset, .unset, .unset, .unset, .unset, .unset, .unset, .unset, .unset, .unset, .unset, .unset, .unset, .unset, .unset, .unset, .unset, .unset, .unset, .unset, .unset, .unset, .unset, .unset, .unset, .unset, .unset, .unset, .unset, .unset, .unset, .unset, .unset, .unset, .unset, .unset, .unset, .unset, .unset, .unset, .unset, .unset, .unset, .unset, .unset, .unset, .unset, .unset, .unset, .unset, .unset]) (pc' := 13) K at_11 rfl rfl ?_
  refine oW.iload (pc' := 15) K at_13 rfl rfl ?_
  refine oW.iconst (v := (2 : Int32)) (pc' := 16) K at_15 (by decide) rfl ?_
  obtain ⟨v16, ev16⟩ : ∃ t_ : Int32, t_ = XT.ushr p4 (2 : Int32) := ⟨_, rfl⟩
  refine oW.iushr (pc' := 17) K at_16 ev16 rfl ?_
  refine oW.iconst (v := (3 : Int32)) (pc' := 18) K at_17 (by decide) rfl ?_
  obtain ⟨v18, ev18⟩ : ∃ t_ : Int32, t_ = v16 &&& (3 : Int32) := ⟨_, rfl⟩
  refine oW.iand (pc' := 19) K at_18 ev18 rfl ?_
  have tv18 := oMaskR 3 (by decide) ev18
  refine oW.istore (Ls' := #[.val (.int p0), .val (.int p1), .val (.int p2), .val (.int p3), .val (.int p4), .val (.long (1099511627776 : Int64)), .second, .val (.int (4 : Int32)), .val (.int v18), .unset, .unset, .unset, .unset, .unset, .unset, .unset, .unset, .unset, .unset, .unset, .unset, .unset, .unset, .unset, .unset, .unset, .unset, .unset, .unset, .unset, .unset, .unset, .unset, .unset, .unset, .unset, .unset, .unset, .unset, .unset, .unset, .unset, .unset, .unset, .unset, .unset, .unset, .unset, .unset, .unset, .unset, .unset, .unset, .unset, .unset, .unset, .unset, .unset, .unset, .unset, .unset]) (pc' := 21) K at_19 rfl rfl ?_
  refine oW.iload (pc' := 23) K at_21 rfl rfl ?_
  refine oW.iconst (v := (4 : Int32)) (pc' := 24) K at_23 (by decide) rfl ?_
  obtain ⟨v24, ev24⟩ : ∃ t_ : Int32, t_ = XT.ushr p4 (4 : Int32) := ⟨_, rfl⟩
  refine oW.iushr (pc' := 25) K at_24 ev24 rfl ?_
  refine oW.iconst (v := (3 : Int32)) (pc' := 26) K at_25 (by decide) rfl ?_
  obtain ⟨v26, ev26⟩ : ∃ t_ : Int32, t_ = v24 &&& (3 : Int32) := ⟨_, rfl⟩
  refine oW.iand (pc' := 27) K at_26 ev26 rfl ?_
  have tv26 := oMaskR 3 (by decide) ev26
  refine oW.istore (Ls' := #[.val (.int p0), .val (.int p1), .val (.int p2), .val (.int p3), .val (.int p4), .val (.long (1099511627776 : Int64)), .second, .val (.int (4 : Int32)), .val (.int v18), .val (.int v26), .unset, .unset, .unset, .unset, .unset, .unset, .unset, .unset, .unset, .unset, .unset, .unset, .unset, .unset, .unset, .unset, .unset, .unset, .unset, .unset, .unset, .unset, .unset, .unset, .unset, .unset, .unset, .unset, .unset, .unset, .unset, .unset, .unset, .unset, .unset, .unset, .unset, .unset, .unset, .unset, .unset, .unset, .unset, .unset, .unset, .unset, .unset, .unset, .unset, .unset, .unset]) (pc' := 29) K at_27 rfl rfl ?_
  refine oW.iload (pc' := 31) K at_29 rfl rfl ?_
  refine oW.bipush (v := (6 : Int32)) (pc' := 33) K at_31 (by decide) rfl ?_
  obtain ⟨v33, ev33⟩ : ∃ t_ : Int32, t_ = XT.ushr p4 (6 : Int32) := ⟨_, rfl⟩
  refine oW.iushr (pc' := 34) K at_33 ev33 rfl ?_
  refine oW.iconst (v := (3 : Int32)) (pc' := 35) K at_34 (by decide) rfl ?_
  obtain ⟨v35, ev35⟩ : ∃ t_ : Int32, t_ = v33 &&& (3 : Int32) := ⟨_, rfl⟩
  refine oW.iand (pc' := 36) K at_35 ev35 rfl ?_
  have tv35 := oMaskR 3 (by decide) ev35
  refine oW.istore (Ls' := #[.val (.int p0), .val (.int p1), .val (.int p2), .val (.int p3), .val (.int p4), .val (.long (1099511627776 : Int64)), .second, .val (.int (4 : Int32)), .val (.int v18), .val (.int v26), .val (.int v35), .unset, .unset, .unset, .unset, .unset, .unset, .unset, .unset, .unset, .unset, .unset, .unset, .unset, .unset, .unset, .unset, .unset, .unset, .unset, .unset, .unset, .unset, .unset, .unset, .unset, .unset, .unset, .unset, .unset, .unset, .unset, .unset, .unset, .unset, .unset, .unset, .unset, .unset, .unset, .unset, .unset, .unset, .unset, .unset, .unset, .unset, .unset, .unset, .unset, .unset]) (pc' := 38) K at_36 rfl rfl ?_
  have b32 := oB32 p0
  obtain ⟨E0, hE0⟩ : ∃ n : Nat, v18.toInt = (n : Int) := ⟨v18.toInt.toNat, by omega⟩
  have bE0 : E0 ≤ 3 := by omega
  obtain ⟨q0, c0, hx0, hy0, hqc0, bq0, bc0⟩ := oPw bE0
  obtain ⟨E1, hE1⟩ : ∃ n : Nat, v26.toInt = (n : Int) := ⟨v26.toInt.toNat, by omega⟩
  have bE1 : E1 ≤ 3 := by omega
  obtain ⟨q1, c1, hx1, hy1, hqc1, bq1, bc1⟩ := oPw bE1
  obtain ⟨E2, hE2⟩ : ∃ n : Nat, v35.toInt = (n : Int) := ⟨v35.toInt.toNat, by omega⟩
  have bE2 : E2 ≤ 3 := by omega
  obtain ⟨q2, c2, hx2, hy2, hqc2, bq2, bc2⟩ := oPw bE2
  refine oW.iloadN (pc' := 39) K at_38 rfl rfl ?_
  refine oW.ldcI (pc' := 41) K (hw _ (List.mem_of_getElem? (i := 1) rfl)) at_39 rfl ?_
  obtain ⟨v41, ev41⟩ : ∃ t_ : Int32, t_ = p1 &&& (1048575 : Int32) := ⟨_, rfl⟩
  refine oW.iand (pc' := 42) K at_41 ev41 rfl ?_
  have tv41 := oMaskR 1048575 (by decide) ev41
  obtain ⟨v42, ev42⟩ : ∃ t_ : Int64, t_ = v41.toInt64 := ⟨_, rfl⟩
  refine oW.i2l (pc' := 43) K at_42 ev42 rfl ?_
  have tv42 : v42.toInt = v41.toInt := (oI2L ev42).trans rfl
  refine oW.lconst (v := (1 : Int64)) (pc' := 44) K at_43 (by decide) rfl ?_
  obtain ⟨v44, ev44⟩ : ∃ t_ : Int64, t_ = v42 + (1 : Int64) := ⟨_, rfl⟩
  refine oW.ladd (pc' := 45) K at_44 ev44 rfl ?_
  have tv44 : v44.toInt = v41.toInt + 1 := by have h1 := (tv42 : v42.toInt = _); have h2 := ((by decide : ((1 : Int64)).toInt = 1) : ((1 : Int64)).toInt = _); have h := oLadd ev44 (by omega); omega
  refine oW.lstore (Ls' := #[.val (.int p0), .val (.int p1), .val (.int p2), .val (.int p3), .val (.int p4), .val (.long (1099511627776 : Int64)), .second, .val (.int (4 : Int32)), .val (.int v18), .val (.int v26), .val (.int v35), .val (.long v44), .second, .unset, .unset, .unset, .unset, .unset, .unset, .unset, .unset, .unset, .unset, .unset, .unset, .unset, .unset, .unset, .unset, .unset, .unset, .unset, .unset, .unset, .unset, .unset, .unset, .unset, .unset, .unset, .unset, .unset, .unset, .unset, .unset, .unset, .unset, .unset, .unset, .unset, .unset, .unset, .unset, .unset, .unset, .unset, .unset, .unset, .unset, .unset, .unset]) (pc' := 47) K at_45 rfl rfl ?_
  refine oW.iloadN (pc' := 48) K at_47 rfl rfl ?_
  refine oW.ldcI (pc' := 50) K (hw _ (List.mem_of_getElem? (i := 1) rfl)) at_48 rfl ?_
  obtain ⟨v50, ev50⟩ : ∃ t_ : Int32, t_ = p2 &&& (1048575 : Int32) := ⟨_, rfl⟩
  refine oW.iand (pc' := 51) K at_50 ev50 rfl ?_
  have tv50 := oMaskR 1048575 (by decide) ev50
  obtain ⟨v51, ev51⟩ : ∃ t_ : Int64, t_ = v50.toInt64 := ⟨_, rfl⟩
  refine oW.i2l (pc' := 52) K at_51 ev51 rfl ?_
  have tv51 : v51.toInt = v50.toInt := (oI2L ev51).trans rfl
  refine oW.lconst (v := (1 : Int64)) (pc' := 53) K at_52 (by decide) rfl ?_
  obtain ⟨v53, ev53⟩ : ∃ t_ : Int64, t_ = v51 + (1 : Int64) := ⟨_, rfl⟩
  refine oW.ladd (pc' := 54) K at_53 ev53 rfl ?_
  have tv53 : v53.toInt = v50.toInt + 1 := by have h1 := (tv51 : v51.toInt = _); have h2 := ((by decide : ((1 : Int64)).toInt = 1) : ((1 : Int64)).toInt = _); have h := oLadd ev53 (by omega); omega
  refine oW.lstore (Ls' := #[.val (.int p0), .val (.int p1), .val (.int p2), .val (.int p3), .val (.int p4), .val (.long (1099511627776 : Int64)), .second, .val (.int (4 : Int32)), .val (.int v18), .val (.int v26), .val (.int v35), .val (.long v44), .second, .val (.long v53), .second, .unset, .unset, .unset, .unset, .unset, .unset, .unset, .unset, .unset, .unset, .unset, .unset, .unset, .unset, .unset, .unset, .unset, .unset, .unset, .unset, .unset, .unset, .unset, .unset, .unset, .unset, .unset, .unset, .unset, .unset, .unset, .unset, .unset, .unset, .unset, .unset, .unset, .unset, .unset, .unset, .unset, .unset, .unset, .unset, .unset, .unset]) (pc' := 56) K at_54 rfl rfl ?_
  refine oW.iloadN (pc' := 57) K at_56 rfl rfl ?_
  refine oW.ldcI (pc' := 59) K (hw _ (List.mem_of_getElem? (i := 1) rfl)) at_57 rfl ?_
  obtain ⟨v59, ev59⟩ : ∃ t_ : Int32, t_ = p3 &&& (1048575 : Int32) := ⟨_, rfl⟩
  refine oW.iand (pc' := 60) K at_59 ev59 rfl ?_
  have tv59 := oMaskR 1048575 (by decide) ev59
  obtain ⟨v60, ev60⟩ : ∃ t_ : Int64, t_ = v59.toInt64 := ⟨_, rfl⟩
  refine oW.i2l (pc' := 61) K at_60 ev60 rfl ?_
  have tv60 : v60.toInt = v59.toInt := (oI2L ev60).trans rfl
  refine oW.lconst (v := (1 : Int64)) (pc' := 62) K at_61 (by decide) rfl ?_
  obtain ⟨v62, ev62⟩ : ∃ t_ : Int64, t_ = v60 + (1 : Int64) := ⟨_, rfl⟩
  refine oW.ladd (pc' := 63) K at_62 ev62 rfl ?_
  have tv62 : v62.toInt = v59.toInt + 1 := by have h1 := (tv60 : v60.toInt = _); have h2 := ((by decide : ((1 : Int64)).toInt = 1) : ((1 : Int64)).toInt = _); have h := oLadd ev62 (by omega); omega
  refine oW.lstore (Ls' := #[.val (.int p0), .val (.int p1), .val (.int p2), .val (.int p3), .val (.int p4), .val (.long (1099511627776 : Int64)), .second, .val (.int (4 : Int32)), .val (.int v18), .val (.int v26), .val (.int v35), .val (.long v44), .second, .val (.long v53), .second, .val (.long v62), .second, .unset, .unset, .unset, .unset, .unset, .unset, .unset, .unset, .unset, .unset, .unset, .unset, .unset, .unset, .unset, .unset, .unset, .unset, .unset, .unset, .unset, .unset, .unset, .unset, .unset, .unset, .unset, .unset, .unset, .unset, .unset, .unset, .unset, .unset, .unset, .unset, .unset, .unset, .unset, .unset, .unset, .unset, .unset, .unset]) (pc' := 65) K at_63 rfl rfl ?_
  refine oW.iloadN (pc' := 66) K at_65 rfl rfl ?_
  obtain ⟨v66, ev66⟩ : ∃ t_ : Int64, t_ = p0.toInt64 := ⟨_, rfl⟩
  refine oW.i2l (pc' := 67) K at_66 ev66 rfl ?_
  have tv66 : v66.toInt = p0.toInt := (oI2L ev66).trans rfl
  refine oW.lstore (Ls' := #[.val (.int p0), .val (.int p1), .val (.int p2), .val (.int p3), .val (.int p4), .val (.long (1099511627776 : Int64)), .second, .val (.int (4 : Int32)), .val (.int v18), .val (.int v26), .val (.int v35), .val (.long v44), .second, .val (.long v53), .second, .val (.long v62), .second, .val (.long v66), .second, .unset, .unset, .unset, .unset, .unset, .unset, .unset, .unset, .unset, .unset, .unset, .unset, .unset, .unset, .unset, .unset, .unset, .unset, .unset, .unset, .unset, .unset, .unset, .unset, .unset, .unset, .unset, .unset, .unset, .unset, .unset, .unset, .unset, .unset, .unset, .unset, .unset, .unset, .unset, .unset, .unset, .unset]) (pc' := 69) K at_67 rfl rfl ?_
  refine oW.lload (pc' := 71) K at_69 rfl rfl ?_
  refine oW.lload (pc' := 73) K at_71 rfl rfl ?_
  obtain ⟨v73, ev73⟩ : ∃ t_ : Int64, t_ = v66 + v44 := ⟨_, rfl⟩
  refine oW.ladd (pc' := 74) K at_73 ev73 rfl ?_
  have tv73 : v73.toInt = p0.toInt + v41.toInt + 1 := by have h1 := (tv66 : v66.toInt = _); have h2 := (tv44 : v44.toInt = _); have h := oLadd ev73 (by omega); omega
  refine oW.lstore (Ls' := #[.val (.int p0), .val (.int p1), .val (.int p2), .val (.int p3), .val (.int p4), .val (.long (1099511627776 : Int64)), .second, .val (.int (4 : Int32)), .val (.int v18), .val (.int v26), .val (.int v35), .val (.long v44), .second, .val (.long v53), .second, .val (.long v62), .second, .val (.long v66), .second, .val (.long v73), .second, .unset, .unset, .unset, .unset, .unset, .unset, .unset, .unset, .unset, .unset, .unset, .unset, .unset, .unset, .unset, .unset, .unset, .unset, .unset, .unset, .unset, .unset, .unset, .unset, .unset, .unset, .unset, .unset, .unset, .unset, .unset, .unset, .unset, .unset, .unset, .unset, .unset, .unset, .unset, .unset]) (pc' := 76) K at_74 rfl rfl ?_
  refine oW.lload (pc' := 78) K at_76 rfl rfl ?_
  refine oW.lload (pc' := 80) K at_78 rfl rfl ?_
  obtain ⟨v80, ev80⟩ : ∃ t_ : Int64, t_ = v73 + v53 := ⟨_, rfl⟩
  refine oW.ladd (pc' := 81) K at_80 ev80 rfl ?_
  have tv80 : v80.toInt = p0.toInt + v41.toInt + 1 + v50.toInt + 1 := by have h1 := (tv73 : v73.toInt = _); have h2 := (tv53 : v53.toInt = _); have h := oLadd ev80 (by omega); omega
  refine oW.lstore (Ls' := #[.val (.int p0), .val (.int p1), .val (.int p2), .val (.int p3), .val (.int p4), .val (.long (1099511627776 : Int64)), .second, .val (.int (4 : Int32)), .val (.int v18), .val (.int v26), .val (.int v35), .val (.long v44), .second, .val (.long v53), .second, .val (.long v62), .second, .val (.long v66), .second, .val (.long v73), .second, .val (.long v80), .second, .unset, .unset, .unset, .unset, .unset, .unset, .unset, .unset, .unset, .unset, .unset, .unset, .unset, .unset, .unset, .unset, .unset, .unset, .unset, .unset, .unset, .unset, .unset, .unset, .unset, .unset, .unset, .unset, .unset, .unset, .unset, .unset, .unset, .unset, .unset, .unset, .unset, .unset]) (pc' := 83) K at_81 rfl rfl ?_
  refine oW.lload (pc' := 85) K at_83 rfl rfl ?_
  refine oW.lload (pc' := 87) K at_85 rfl rfl ?_
  obtain ⟨v87, ev87⟩ : ∃ t_ : Int64, t_ = v80 + v62 := ⟨_, rfl⟩
  refine oW.ladd (pc' := 88) K at_87 ev87 rfl ?_
  have tv87 : v87.toInt = p0.toInt + v41.toInt + 1 + v50.toInt + 1 + v59.toInt + 1 := by have h1 := (tv80 : v80.toInt = _); have h2 := (tv62 : v62.toInt = _); have h := oLadd ev87 (by omega); omega
  refine oW.lstore (Ls' := #[.val (.int p0), .val (.int p1), .val (.int p2), .val (.int p3), .val (.int p4), .val (.long (1099511627776 : Int64)), .second, .val (.int (4 : Int32)), .val (.int v18), .val (.int v26), .val (.int v35), .val (.long v44), .second, .val (.long v53), .second, .val (.long v62), .second, .val (.long v66), .second, .val (.long v73), .second, .val (.long v80), .second, .val (.long v87), .second, .unset, .unset, .unset, .unset, .unset, .unset, .unset, .unset, .unset, .unset, .unset, .unset, .unset, .unset, .unset, .unset, .unset, .unset, .unset, .unset, .unset, .unset, .unset, .unset, .unset, .unset, .unset, .unset, .unset, .unset, .unset, .unset, .unset, .unset, .unset, .unset]) (pc' := 90) K at_88 rfl rfl ?_
  refine oW.iload (pc' := 92) K at_90 rfl rfl ?_
  refine oW.iconst (v := (1 : Int32)) (pc' := 93) K at_92 (by decide) rfl ?_
  refine oW.icmp_ne (pc' := 101) (pc3 := 96) K at_93 (by decide) (by decide) rfl (fun _ => ?_) (fun q => absurd q (by decide))
  refine oW.iconst (v := (1 : Int32)) (pc' := 102) K at_101 (by decide) rfl ?_
  refine oW.iload (pc' := 104) K at_102 rfl rfl ?_
  obtain ⟨v104, ev104⟩ : ∃ t_ : Int32, t_ = (1 : Int32) <<< (v18 &&& 31) := ⟨_, rfl⟩
  refine oW.ishl (pc' := 105) K at_104 ev104 rfl ?_
  have tv104 : v104.toInt = q0 := (oShlI hE0 (Nat.le_trans bE0 (by decide)) ev104).trans hx0
  refine oW.istore (Ls' := #[.val (.int p0), .val (.int p1), .val (.int p2), .val (.int p3), .val (.int p4), .val (.long (1099511627776 : Int64)), .second, .val (.int (4 : Int32)), .val (.int v18), .val (.int v26), .val (.int v35), .val (.long v44), .second, .val (.long v53), .second, .val (.long v62), .second, .val (.long v66), .second, .val (.long v73), .second, .val (.long v80), .second, .val (.long v87), .second, .val (.int v104), .unset, .unset, .unset, .unset, .unset, .unset, .unset, .unset, .unset, .unset, .unset, .unset, .unset, .unset, .unset, .unset, .unset, .unset, .unset, .unset, .unset, .unset, .unset, .unset, .unset, .unset, .unset, .unset, .unset, .unset, .unset, .unset, .unset, .unset, .unset]) (pc' := 107) K at_105 rfl rfl ?_
  refine oW.iload (pc' := 109) K at_107 rfl rfl ?_
  refine oW.iconst (v := (2 : Int32)) (pc' := 110) K at_109 (by decide) rfl ?_
  refine oW.icmp_ge (pc' := 117) (pc3 := 113) K at_110 (by decide) (by decide) rfl (fun _ => ?_) (fun q => absurd q (by decide))
  refine oW.iload (pc' := 119) K at_117 rfl rfl ?_
  refine oW.iconst (v := (2 : Int32)) (pc' := 120) K at_119 (by decide) rfl ?_
  refine oW.icmp_ne (pc' := 131) (pc3 := 123) K at_120 (by decide) (by decide) rfl (fun _ => ?_) (fun q => absurd q (by decide))
  refine oW.iconst (v := (1 : Int32)) (pc' := 132) K at_131 (by decide) rfl ?_
  refine oW.iload (pc' := 134) K at_132 rfl rfl ?_
  obtain ⟨v134, ev134⟩ : ∃ t_ : Int32, t_ = (1 : Int32) <<< (v26 &&& 31) := ⟨_, rfl⟩
  refine oW.ishl (pc' := 135) K at_134 ev134 rfl ?_
  have tv134 : v134.toInt = q1 := (oShlI hE1 (Nat.le_trans bE1 (by decide)) ev134).trans hx1
  refine oW.istore (Ls' := #[.val (.int p0), .val (.int p1), .val (.int p2), .val (.int p3), .val (.int p4), .val (.long (1099511627776 : Int64)), .second, .val (.int (4 : Int32)), .val (.int v18), .val (.int v26), .val (.int v35), .val (.long v44), .second, .val (.long v53), .second, .val (.long v62), .second, .val (.long v66), .second, .val (.long v73), .second, .val (.long v80), .second, .val (.long v87), .second, .val (.int v104), .val (.int v134), .unset, .unset, .unset, .unset, .unset, .unset, .unset, .unset, .unset, .unset, .unset, .unset, .unset, .unset, .unset, .unset, .unset, .unset, .unset, .unset, .unset, .unset, .unset, .unset, .unset, .unset, .unset, .unset, .unset, .unset, .unset, .unset, .unset, .unset]) (pc' := 137) K at_135 rfl rfl ?_
  refine oW.iload (pc' := 139) K at_137 rfl rfl ?_
  refine oW.iconst (v := (3 : Int32)) (pc' := 140) K at_139 (by decide) rfl ?_
  refine oW.icmp_ge (pc' := 147) (pc3 := 143) K at_140 (by decide) (by decide) rfl (fun _ => ?_) (fun q => absurd q (by decide))
  refine oW.iload (pc' := 149) K at_147 rfl rfl ?_
  refine oW.iconst (v := (3 : Int32)) (pc' := 150) K at_149 (by decide) rfl ?_
  refine oW.icmp_ne (pc' := 164) (pc3 := 153) K at_150 (by decide) (by decide) rfl (fun _ => ?_) (fun q => absurd q (by decide))
  refine oW.iconst (v := (1 : Int32)) (pc' := 165) K at_164 (by decide) rfl ?_
  refine oW.iload (pc' := 167) K at_165 rfl rfl ?_
  obtain ⟨v167, ev167⟩ : ∃ t_ : Int32, t_ = (1 : Int32) <<< (v35 &&& 31) := ⟨_, rfl⟩
  refine oW.ishl (pc' := 168) K at_167 ev167 rfl ?_
  have tv167 : v167.toInt = q2 := (oShlI hE2 (Nat.le_trans bE2 (by decide)) ev167).trans hx2
  refine oW.istore (Ls' := #[.val (.int p0), .val (.int p1), .val (.int p2), .val (.int p3), .val (.int p4), .val (.long (1099511627776 : Int64)), .second, .val (.int (4 : Int32)), .val (.int v18), .val (.int v26), .val (.int v35), .val (.long v44), .second, .val (.long v53), .second, .val (.long v62), .second, .val (.long v66), .second, .val (.long v73), .second, .val (.long v80), .second, .val (.long v87), .second, .val (.int v104), .val (.int v134), .val (.int v167), .unset, .unset, .unset, .unset, .unset, .unset, .unset, .unset, .unset, .unset, .unset, .unset, .unset, .unset, .unset, .unset, .unset, .unset, .unset, .unset, .unset, .unset, .unset, .unset, .unset, .unset, .unset, .unset, .unset, .unset, .unset, .unset, .unset]) (pc' := 170) K at_168 rfl rfl ?_
  refine oW.iload (pc' := 172) K at_170 rfl rfl ?_
  refine oW.iconst (v := (4 : Int32)) (pc' := 173) K at_172 (by decide) rfl ?_
  refine oW.icmp_ge (pc' := 180) (pc3 := 176) K at_173 (by decide) (by decide) rfl (fun _ => ?_) (fun q => absurd q (by decide))
  refine oW.bipush (v := (32 : Int32)) (pc' := 182) K at_180 (by decide) rfl ?_
  refine oW.iload (pc' := 184) K at_182 rfl rfl ?_
  obtain ⟨v184, ev184⟩ : ∃ t_ : Int32, t_ = (32 : Int32) - v104 := ⟨_, rfl⟩
  refine oW.isub (pc' := 185) K at_184 ev184 rfl ?_
  have tv184 : v184.toInt = 32 - q0 := by have h1 := ((by decide : ((32 : Int32)).toInt = 32) : ((32 : Int32)).toInt = _); have h2 := (tv104 : v104.toInt = _); have h := oIsub ev184 (by omega); omega
  refine oW.iload (pc' := 187) K at_185 rfl rfl ?_
  obtain ⟨v187, ev187⟩ : ∃ t_ : Int32, t_ = v184 - v134 := ⟨_, rfl⟩
  refine oW.isub (pc' := 188) K at_187 ev187 rfl ?_
  have tv187 : v187.toInt = 32 - q0 - q1 := by have h1 := (tv184 : v184.toInt = _); have h2 := (tv134 : v134.toInt = _); have h := oIsub ev187 (by omega); omega
  refine oW.iload (pc' := 190) K at_188 rfl rfl ?_
  obtain ⟨v190, ev190⟩ : ∃ t_ : Int32, t_ = v187 - v167 := ⟨_, rfl⟩
  refine oW.isub (pc' := 191) K at_190 ev190 rfl ?_
  have tv190 : v190.toInt = 32 - q0 - q1 - q2 := by have h1 := (tv187 : v187.toInt = _); have h2 := (tv167 : v167.toInt = _); have h := oIsub ev190 (by omega); omega
  refine oW.istore (Ls' := #[.val (.int p0), .val (.int p1), .val (.int p2), .val (.int p3), .val (.int p4), .val (.long (1099511627776 : Int64)), .second, .val (.int (4 : Int32)), .val (.int v18), .val (.int v26), .val (.int v35), .val (.long v44), .second, .val (.long v53), .second, .val (.long v62), .second, .val (.long v66), .second, .val (.long v73), .second, .val (.long v80), .second, .val (.long v87), .second, .val (.int v104), .val (.int v134), .val (.int v167), .val (.int v190), .unset, .unset, .unset, .unset, .unset, .unset, .unset, .unset, .unset, .unset, .unset, .unset, .unset, .unset, .unset, .unset, .unset, .unset, .unset, .unset, .unset, .unset, .unset, .unset, .unset, .unset, .unset, .unset, .unset, .unset, .unset, .unset]) (pc' := 193) K at_191 rfl rfl ?_
  obtain ⟨u0, hu0⟩ : ∃ z : Int, v66.toInt = z := ⟨_, rfl⟩
  obtain ⟨u1, hu1⟩ : ∃ z : Int, v73.toInt = z := ⟨_, rfl⟩
  obtain ⟨u2, hu2⟩ : ∃ z : Int, v80.toInt = z := ⟨_, rfl⟩
  obtain ⟨u3, hu3⟩ : ∃ z : Int, v87.toInt = z := ⟨_, rfl⟩
  obtain ⟨g1, hg1⟩ : ∃ z : Int, v44.toInt = z := ⟨_, rfl⟩
  obtain ⟨g2, hg2⟩ : ∃ z : Int, v53.toInt = z := ⟨_, rfl⟩
  obtain ⟨g3, hg3⟩ : ∃ z : Int, v62.toInt = z := ⟨_, rfl⟩
  obtain ⟨q3, hq3⟩ : ∃ z : Int, v190.toInt = z := ⟨_, rfl⟩
  have bu0 : -4294967296 ≤ u0 ∧ u0 ≤ 4294967296 := by omega
  have bu1 : -4294967296 ≤ u1 ∧ u1 ≤ 4294967296 := by omega
  have bu2 : -4294967296 ≤ u2 ∧ u2 ≤ 4294967296 := by omega
  have bu3 : -4294967296 ≤ u3 ∧ u3 ≤ 4294967296 := by omega
  have bg1 : 1 ≤ g1 ∧ g1 ≤ 1048576 := by omega
  have du0 : u1 - u0 = g1 := by omega
  have bg2 : 1 ≤ g2 ∧ g2 ≤ 1048576 := by omega
  have du1 : u2 - u1 = g2 := by omega
  have bg3 : 1 ≤ g3 ∧ g3 ≤ 1048576 := by omega
  have du2 : u3 - u2 = g3 := by omega
  have bql : 1 ≤ q3 ∧ q3 ≤ 32 ∧ q0 + q1 + q2 + q3 = 32 := by omega
  try clear tv9
  try clear tv18
  try clear tv26
  try clear tv35
  try clear tv41
  try clear tv42
  try clear tv44
  try clear tv50
  try clear tv51
  try clear tv53
  try clear tv59
  try clear tv60
  try clear tv62
  try clear tv66
  try clear tv73
  try clear tv80
  try clear tv87
  try clear tv184
  try clear tv187
  try clear tv190
  try clear b32
  obtain ⟨T0, hT0⟩ : ∃ z : Int, z = q1 + q2 + q3 := ⟨_, rfl⟩
  have hP0 := oMB (a := g1) (A := 1048576) (by omega) (b := T0) (B := 32) (by omega)
  have hPc0 := oMB (a := g1 * T0) (A := 33554432) (by omega) (b := c0) (B := 8) (by omega)
  obtain ⟨R0, hR0⟩ : ∃ z : Int, u0 * 8 - g1 * T0 * c0 = z := ⟨_, rfl⟩
  obtain ⟨T1, hT1⟩ : ∃ z : Int, z = q2 + q3 := ⟨_, rfl⟩
  have hP1 := oMB (a := g2) (A := 1048576) (by omega) (b := T1) (B := 32) (by omega)
  have hPc1 := oMB (a := g2 * T1) (A := 33554432) (by omega) (b := c1) (B := 8) (by omega)
  obtain ⟨R1, hR1⟩ : ∃ z : Int, u1 * 8 - g2 * T1 * c1 = z := ⟨_, rfl⟩
  obtain ⟨T2, hT2⟩ : ∃ z : Int, z = q3 := ⟨_, rfl⟩
  have hP2 := oMB (a := g3) (A := 1048576) (by omega) (b := T2) (B := 32) (by omega)
  have hPc2 := oMB (a := g3 * T2) (A := 33554432) (by omega) (b := c2) (B := 8) (by omega)
  obtain ⟨R2, hR2⟩ : ∃ z : Int, u2 * 8 - g3 * T2 * c2 = z := ⟨_, rfl⟩
  have hN0 := oMBr (q := q0) (R := R0) (by omega) (by omega)
  have hN1 := oMBr (q := q1) (R := R1) (by omega) (by omega)
  have hN2 := oMBr (q := q2) (R := R2) (by omega) (by omega)
  refine oW.iload (pc' := 195) K at_193 rfl rfl ?_
  refine oW.newarr (n := 4) (cells' := 1) (slots' := 4) (dsf := fun z => [(z, .inl (.double, [(.double (0 : UInt64)), (.double (0 : UInt64)), (.double (0 : UInt64)), (.double (0 : UInt64))]))]) (pc' := 197) K (hw _ (List.mem_of_getElem? (i := 2) rfl)) at_195 rfl (by decide) (by decide) (by decide) (by decide) rfl rfl (fun _ => rfl) rfl ?_
  intro a195 ha195
  refine oW.astore (Ls' := #[.val (.int p0), .val (.int p1), .val (.int p2), .val (.int p3), .val (.int p4), .val (.long (1099511627776 : Int64)), .second, .val (.int (4 : Int32)), .val (.int v18), .val (.int v26), .val (.int v35), .val (.long v44), .second, .val (.long v53), .second, .val (.long v62), .second, .val (.long v66), .second, .val (.long v73), .second, .val (.long v80), .second, .val (.long v87), .second, .val (.int v104), .val (.int v134), .val (.int v167), .val (.int v190), .val (.ref a195), .unset, .unset, .unset, .unset, .unset, .unset, .unset, .unset, .unset, .unset, .unset, .unset, .unset, .unset, .unset, .unset, .unset, .unset, .unset, .unset, .unset, .unset, .unset, .unset, .unset, .unset, .unset, .unset, .unset, .unset, .unset]) (pc' := 199) K at_197 rfl rfl rfl ?_
  refine oW.iload (pc' := 201) K at_199 rfl rfl ?_
  refine oW.newarr (n := 4) (cells' := 2) (slots' := 8) (dsf := fun z => [(a195, .inl (.double, [(.double (0 : UInt64)), (.double (0 : UInt64)), (.double (0 : UInt64)), (.double (0 : UInt64))])), (z, .inl (.double, [(.double (0 : UInt64)), (.double (0 : UInt64)), (.double (0 : UInt64)), (.double (0 : UInt64))]))]) (pc' := 203) K (hw _ (List.mem_of_getElem? (i := 2) rfl)) at_201 rfl (by decide) (by decide) (by decide) (by decide) rfl rfl (fun _ => rfl) rfl ?_
  intro a201 ha201
  refine oW.astore (Ls' := #[.val (.int p0), .val (.int p1), .val (.int p2), .val (.int p3), .val (.int p4), .val (.long (1099511627776 : Int64)), .second, .val (.int (4 : Int32)), .val (.int v18), .val (.int v26), .val (.int v35), .val (.long v44), .second, .val (.long v53), .second, .val (.long v62), .second, .val (.long v66), .second, .val (.long v73), .second, .val (.long v80), .second, .val (.long v87), .second, .val (.int v104), .val (.int v134), .val (.int v167), .val (.int v190), .val (.ref a195), .val (.ref a201), .unset, .unset, .unset, .unset, .unset, .unset, .unset, .unset, .unset, .unset, .unset, .unset, .unset, .unset, .unset, .unset, .unset, .unset, .unset, .unset, .unset, .unset, .unset, .unset, .unset, .unset, .unset, .unset, .unset, .unset]) (pc' := 205) K at_203 rfl rfl rfl ?_
  refine oW.aload (pc' := 207) K at_205 rfl rfl rfl ?_
  refine oW.iconst (v := (0 : Int32)) (pc' := 208) K at_207 (by decide) rfl ?_
  refine oW.lload (pc' := 210) K at_208 rfl rfl ?_
  obtain ⟨v210, ev210⟩ : ∃ t_ : UInt64, t_ = FP.l2d v66 := ⟨_, rfl⟩
  have qv210 : oQ (u0) 0 v210 := oQ.int (hu0 ▸ oL2D ev210 (by have h1 := hu0; omega))
  refine oW.l2d (pc' := 211) K at_210 ev210 rfl ?_
  refine oW.dastore (i := 0) (k := 0) (ds' := [(a195, .inl (.double, [(.double v210), (.double (0 : UInt64)), (.double (0 : UInt64)), (.double (0 : UInt64))])), (a201, .inl (.double, [(.double (0 : UInt64)), (.double (0 : UInt64)), (.double (0 : UInt64)), (.double (0 : UInt64))]))]) (pc' := 212) K at_211 rfl rfl (by decide) (Nat.lt_of_sub_eq_succ rfl) rfl rfl ?_
  refine oW.aload (pc' := 214) K at_212 rfl rfl rfl ?_
  refine oW.iconst (v := (0 : Int32)) (pc' := 215) K at_214 (by decide) rfl ?_
  refine oW.iload (pc' := 217) K at_215 rfl rfl ?_
  obtain ⟨v217, ev217⟩ : ∃ t_ : UInt64, t_ = FP.i2d v104 := ⟨_, rfl⟩
  have qv217 : oQ (q0) 0 v217 := oQ.int (tv104 ▸ oI2D ev217)
  refine oW.i2d (pc' := 218) K at_217 ev217 rfl ?_
  refine oW.ldc2D (pc' := 221) K (hw _ (List.mem_of_getElem? (i := 3) rfl)) at_218 rfl ?_
  obtain ⟨v221, ev221⟩ : ∃ t_ : UInt64, t_ = FP.ddiv v217 (4629700416936869888 : UInt64) := ⟨_, rfl⟩
  have qv221 : oQ (q0) 5 v221 := qv217.divx (oQ.int (oDK 32 (by decide +kernel) (by decide))) ev221 _ 5 (by decide) (by decide) (by decide) (by decide) (by omega) (by show q0 * 1 * 32 = q0 * (32 * 1); omega)
  refine oW.ddiv (pc' := 222) K at_221 ev221 (qv221.nn) rfl ?_
  refine oW.dastore (i := 1) (k := 0) (ds' := [(a195, .inl (.double, [(.double v210), (.double (0 : UInt64)), (.double (0 : UInt64)), (.double (0 : UInt64))])), (a201, .inl (.double, [(.double v221), (.double (0 : UInt64)), (.double (0 : UInt64)), (.double (0 : UInt64))]))]) (pc' := 223) K at_222 rfl rfl (by decide) (Nat.lt_of_sub_eq_succ rfl) rfl rfl ?_
  refine oW.iload (pc' := 225) K at_223 rfl rfl ?_
  refine oW.iconst (v := (1 : Int32)) (pc' := 226) K at_225 (by decide) rfl ?_
  refine oW.icmp_le (pc' := 247) (pc3 := 229) K at_226 (by decide) (by decide) rfl (fun q => absurd q (by decide)) (fun _ => ?_)
  refine oW.aload (pc' := 231) K at_229 rfl rfl rfl ?_
  refine oW.iconst (v := (1 : Int32)) (pc' := 232) K at_231 (by decide) rfl ?_
  refine oW.lload (pc' := 234) K at_232 rfl rfl ?_
  obtain ⟨v234, ev234⟩ : ∃ t_ : UInt64, t_ = FP.l2d v73 := ⟨_, rfl⟩
  have qv234 : oQ (u1) 0 v234 := oQ.int (hu1 ▸ oL2D ev234 (by have h1 := hu1; omega))
  refine oW.l2d (pc' := 235) K at_234 ev234 rfl ?_
  refine oW.dastore (i := 0) (k := 1) (ds' := [(a195, .inl (.double, [(.double v210), (.double v234), (.double (0 : UInt64)), (.double (0 : UInt64))])), (a201, .inl (.double, [(.double v221), (.double (0 : UInt64)), (.double (0 : UInt64)), (.double (0 : UInt64))]))]) (pc' := 236) K at_235 rfl rfl (by decide) (Nat.lt_of_sub_eq_succ rfl) rfl rfl ?_
  refine oW.aload (pc' := 238) K at_236 rfl rfl rfl ?_
  refine oW.iconst (v := (1 : Int32)) (pc' := 239) K at_238 (by decide) rfl ?_
  refine oW.iload (pc' := 241) K at_239 rfl rfl ?_
  obtain ⟨v241, ev241⟩ : ∃ t_ : UInt64, t_ = FP.i2d v134 := ⟨_, rfl⟩
  have qv241 : oQ (q1) 0 v241 := oQ.int (tv134 ▸ oI2D ev241)
  refine oW.i2d (pc' := 242) K at_241 ev241 rfl ?_
  refine oW.ldc2D (pc' := 245) K (hw _ (List.mem_of_getElem? (i := 3) rfl)) at_242 rfl ?_
  obtain ⟨v245, ev245⟩ : ∃ t_ : UInt64, t_ = FP.ddiv v241 (4629700416936869888 : UInt64) := ⟨_, rfl⟩
  have qv245 : oQ (q1) 5 v245 := qv241.divx (oQ.int (oDK 32 (by decide +kernel) (by decide))) ev245 _ 5 (by decide) (by decide) (by decide) (by decide) (by omega) (by show q1 * 1 * 32 = q1 * (32 * 1); omega)
  refine oW.ddiv (pc' := 246) K at_245 ev245 (qv245.nn) rfl ?_
  refine oW.dastore (i := 1) (k := 1) (ds' := [(a195, .inl (.double, [(.double v210), (.double v234), (.double (0 : UInt64)), (.double (0 : UInt64))])), (a201, .inl (.double, [(.double v221), (.double v245), (.double (0 : UInt64)), (.double (0 : UInt64))]))]) (pc' := 247) K at_246 rfl rfl (by decide) (Nat.lt_of_sub_eq_succ rfl) rfl rfl ?_
  refine oW.iload (pc' := 249) K at_247 rfl rfl ?_
  refine oW.iconst (v := (2 : Int32)) (pc' := 250) K at_249 (by decide) rfl ?_
  refine oW.icmp_le (pc' := 271) (pc3 := 253) K at_250 (by decide) (by decide) rfl (fun q => absurd q (by decide)) (fun _ => ?_)
  refine oW.aload (pc' := 255) K at_253 rfl rfl rfl ?_
  refine oW.iconst (v := (2 : Int32)) (pc' := 256) K at_255 (by decide) rfl ?_
  refine oW.lload (pc' := 258) K at_256 rfl rfl ?_
  obtain ⟨v258, ev258⟩ : ∃ t_ : UInt64, t_ = FP.l2d v80 := ⟨_, rfl⟩
  have qv258 : oQ (u2) 0 v258 := oQ.int (hu2 ▸ oL2D ev258 (by have h1 := hu2; omega))
  refine oW.l2d (pc' := 259) K at_258 ev258 rfl ?_
  refine oW.dastore (i := 0) (k := 2) (ds' := [(a195, .inl (.double, [(.double v210), (.double v234), (.double v258), (.double (0 : UInt64))])), (a201, .inl (.double, [(.double v221), (.double v245), (.double (0 : UInt64)), (.double (0 : UInt64))]))]) (pc' := 260) K at_259 rfl rfl (by decide) (Nat.lt_of_sub_eq_succ rfl) rfl rfl ?_
  refine oW.aload (pc' := 262) K at_260 rfl rfl rfl ?_
  refine oW.iconst (v := (2 : Int32)) (pc' := 263) K at_262 (by decide) rfl ?_
  refine oW.iload (pc' := 265) K at_263 rfl rfl ?_
  obtain ⟨v265, ev265⟩ : ∃ t_ : UInt64, t_ = FP.i2d v167 := ⟨_, rfl⟩
  have qv265 : oQ (q2) 0 v265 := oQ.int (tv167 ▸ oI2D ev265)
  refine oW.i2d (pc' := 266) K at_265 ev265 rfl ?_
  refine oW.ldc2D (pc' := 269) K (hw _ (List.mem_of_getElem? (i := 3) rfl)) at_266 rfl ?_
  obtain ⟨v269, ev269⟩ : ∃ t_ : UInt64, t_ = FP.ddiv v265 (4629700416936869888 : UInt64) := ⟨_, rfl⟩
  have qv269 : oQ (q2) 5 v269 := qv265.divx (oQ.int (oDK 32 (by decide +kernel) (by decide))) ev269 _ 5 (by decide) (by decide) (by decide) (by decide) (by omega) (by show q2 * 1 * 32 = q2 * (32 * 1); omega)
  refine oW.ddiv (pc' := 270) K at_269 ev269 (qv269.nn) rfl ?_
  refine oW.dastore (i := 1) (k := 2) (ds' := [(a195, .inl (.double, [(.double v210), (.double v234), (.double v258), (.double (0 : UInt64))])), (a201, .inl (.double, [(.double v221), (.double v245), (.double v269), (.double (0 : UInt64))]))]) (pc' := 271) K at_270 rfl rfl (by decide) (Nat.lt_of_sub_eq_succ rfl) rfl rfl ?_
  refine oW.iload (pc' := 273) K at_271 rfl rfl ?_
  refine oW.iconst (v := (3 : Int32)) (pc' := 274) K at_273 (by decide) rfl ?_
  refine oW.icmp_le (pc' := 295) (pc3 := 277) K at_274 (by decide) (by decide) rfl (fun q => absurd q (by decide)) (fun _ => ?_)
  refine oW.aload (pc' := 279) K at_277 rfl rfl rfl ?_
  refine oW.iconst (v := (3 : Int32)) (pc' := 280) K at_279 (by decide) rfl ?_
  refine oW.lload (pc' := 282) K at_280 rfl rfl ?_
  obtain ⟨v282, ev282⟩ : ∃ t_ : UInt64, t_ = FP.l2d v87 := ⟨_, rfl⟩
  have qv282 : oQ (u3) 0 v282 := oQ.int (hu3 ▸ oL2D ev282 (by have h1 := hu3; omega))
  refine oW.l2d (pc' := 283) K at_282 ev282 rfl ?_
  refine oW.dastore (i := 0) (k := 3) (ds' := [(a195, .inl (.double, [(.double v210), (.double v234), (.double v258), (.double v282)])), (a201, .inl (.double, [(.double v221), (.double v245), (.double v269), (.double (0 : UInt64))]))]) (pc' := 284) K at_283 rfl rfl (by decide) (Nat.lt_of_sub_eq_succ rfl) rfl rfl ?_
  refine oW.aload (pc' := 286) K at_284 rfl rfl rfl ?_
  refine oW.iconst (v := (3 : Int32)) (pc' := 287) K at_286 (by decide) rfl ?_
  refine oW.iload (pc' := 289) K at_287 rfl rfl ?_
  obtain ⟨v289, ev289⟩ : ∃ t_ : UInt64, t_ = FP.i2d v190 := ⟨_, rfl⟩
  have qv289 : oQ (q3) 0 v289 := oQ.int (hq3 ▸ oI2D ev289)
  refine oW.i2d (pc' := 290) K at_289 ev289 rfl ?_
  refine oW.ldc2D (pc' := 293) K (hw _ (List.mem_of_getElem? (i := 3) rfl)) at_290 rfl ?_
  obtain ⟨v293, ev293⟩ : ∃ t_ : UInt64, t_ = FP.ddiv v289 (4629700416936869888 : UInt64) := ⟨_, rfl⟩
  have qv293 : oQ (q3) 5 v293 := qv289.divx (oQ.int (oDK 32 (by decide +kernel) (by decide))) ev293 _ 5 (by decide) (by decide) (by decide) (by decide) (by omega) (by show q3 * 1 * 32 = q3 * (32 * 1); omega)
  refine oW.ddiv (pc' := 294) K at_293 ev293 (qv293.nn) rfl ?_
  refine oW.dastore (i := 1) (k := 3) (ds' := [(a195, .inl (.double, [(.double v210), (.double v234), (.double v258), (.double v282)])), (a201, .inl (.double, [(.double v221), (.double v245), (.double v269), (.double v293)]))]) (pc' := 295) K at_294 rfl rfl (by decide) (Nat.lt_of_sub_eq_succ rfl) rfl rfl ?_
  refine oW.aload (pc' := 297) K at_295 rfl rfl rfl ?_
  refine oW.aload (pc' := 299) K at_297 rfl rfl rfl ?_
  obtain ⟨R3, hRl⟩ : ∃ z : Int, u3 * 8 = z := ⟨_, rfl⟩
  refine oW.callS (argsL := [(.ref a195), (.ref a201)]) (S := []) (rm := ({ frames := 2, cells := 5, slots := 20, locals := 60 } : Room)) (W := 0) (cells' := 7) (slots' := 28) (pc' := 302) K (hw _ (List.mem_of_getElem? (i := 4) rfl)) (hw _ (List.mem_of_getElem? (i := 5) rfl)) (hw _ (List.mem_of_getElem? (i := 6) rfl)) (hw _ (List.mem_of_getElem? (i := 7) rfl)) (by decide) (own_ir4 hw qv210 qv221 (by omega) (by omega) (by omega) qv234 qv245 (by omega) (by omega) (by omega) qv258 qv269 (by omega) (by omega) (by omega) qv282 qv293 (by omega) (by omega) (by omega) (by omega) (by omega) (by omega) hqc0 (by omega) (by omega) hR0 (by omega) (by omega) (by omega) hqc1 (by omega) (by omega) hR1 (by omega) (by omega) (by omega) hqc2 (by omega) (by omega) hR2 (by omega) hRl) (lenOf pd_2 rfl) at_299 rfl rfl (Nat.le_of_eq rfl) (by decide) (by decide) (by decide) (by decide) rfl rfl rfl ?_
  rintro _ _ ⟨a2, a3, a4, a5, a6, l2, l3, l4, l5, v0, v1, v2, v3, rfl, rfl, ⟨hir, q3v⟩⟩
  refine oW.astore (Ls' := #[.val (.int p0), .val (.int p1), .val (.int p2), .val (.int p3), .val (.int p4), .val (.long (1099511627776 : Int64)), .second, .val (.int (4 : Int32)), .val (.int v18), .val (.int v26), .val (.int v35), .val (.long v44), .second, .val (.long v53), .second, .val (.long v62), .second, .val (.long v66), .second, .val (.long v73), .second, .val (.long v80), .second, .val (.long v87), .second, .val (.int v104), .val (.int v134), .val (.int v167), .val (.int v190), .val (.ref a195), .val (.ref a201), .val (.ref a6), .unset, .unset, .unset, .unset, .unset, .unset, .unset, .unset, .unset, .unset, .unset, .unset, .unset, .unset, .unset, .unset, .unset, .unset, .unset, .unset, .unset, .unset, .unset, .unset, .unset, .unset, .unset, .unset, .unset]) (pc' := 304) K at_302 rfl rfl rfl ?_
  refine oW.aload (pc' := 306) K at_304 rfl rfl rfl ?_
  refine oW.alen (i := 6) (v := (4 : Int32)) (pc' := 307) K at_306 rfl rfl rfl ?_
  refine oW.iload (pc' := 309) K at_307 rfl rfl ?_
  refine oW.icmp_eq (pc' := 314) (pc3 := 312) K at_309 (by decide) (by decide) rfl (fun _ => ?_) (fun q => absurd q (by decide))
  refine oW.ldc2L (pc' := 317) K (hw _ (List.mem_of_getElem? (i := 16) rfl)) at_314 rfl ?_
  refine oW.lload (pc' := 319) K at_317 rfl rfl ?_
  obtain ⟨v319, ev319⟩ : ∃ t_ : Int64, t_ = (8 : Int64) * v66 := ⟨_, rfl⟩
  refine oW.lmul (pc' := 320) K at_319 ev319 rfl ?_
  have tv319 : v319.toInt = 8 * u0 := (oLmul ev319 (by rw [(by decide : ((8 : Int64)).toInt = 8), hu0]; omega)).trans (by rw [(by decide : ((8 : Int64)).toInt = 8), hu0])
  refine oW.lload (pc' := 322) K at_320 rfl rfl ?_
  refine oW.iload (pc' := 324) K at_322 rfl rfl ?_
  refine oW.iload (pc' := 326) K at_324 rfl rfl ?_
  obtain ⟨v326, ev326⟩ : ∃ t_ : Int32, t_ = v134 + v167 := ⟨_, rfl⟩
  refine oW.iadd (pc' := 327) K at_326 ev326 rfl ?_
  have tv326 : v326.toInt = q1 + q2 := by have h1 := (tv134 : v134.toInt = _); have h2 := (tv167 : v167.toInt = _); have h := oIadd ev326 (by omega); omega
  refine oW.iload (pc' := 329) K at_327 rfl rfl ?_
  obtain ⟨v329, ev329⟩ : ∃ t_ : Int32, t_ = v326 + v190 := ⟨_, rfl⟩
  refine oW.iadd (pc' := 330) K at_329 ev329 rfl ?_
  have tv329 : v329.toInt = T0 := by have h1 := (tv326 : v326.toInt = _); have h2 := (hq3 : v190.toInt = _); have h := oIadd ev329 (by omega); omega
  obtain ⟨v330, ev330⟩ : ∃ t_ : Int64, t_ = v329.toInt64 := ⟨_, rfl⟩
  refine oW.i2l (pc' := 331) K at_330 ev330 rfl ?_
  have tv330 : v330.toInt = T0 := (oI2L ev330).trans tv329
  obtain ⟨v331, ev331⟩ : ∃ t_ : Int64, t_ = v44 * v330 := ⟨_, rfl⟩
  refine oW.lmul (pc' := 332) K at_331 ev331 rfl ?_
  have tv331 : v331.toInt = g1 * T0 := (oLmul ev331 (by rw [hg1, tv330]; omega)).trans (by rw [hg1, tv330])
  refine oW.bipush (v := (8 : Int32)) (pc' := 334) K at_332 (by decide) rfl ?_
  refine oW.iload (pc' := 336) K at_334 rfl rfl ?_
  obtain ⟨v336, ev336⟩ : ∃ t_ : Int32, t_ = (8 : Int32) >>> (v18 &&& 31) := ⟨_, rfl⟩
  refine oW.ishr (pc' := 337) K at_336 ev336 rfl ?_
  have tv336 : v336.toInt = c0 := (oShr8 hE0 bE0 ev336).trans hy0
  obtain ⟨v337, ev337⟩ : ∃ t_ : Int64, t_ = v336.toInt64 := ⟨_, rfl⟩
  refine oW.i2l (pc' := 338) K at_337 ev337 rfl ?_
  have tv337 : v337.toInt = c0 := (oI2L ev337).trans tv336
  obtain ⟨v338, ev338⟩ : ∃ t_ : Int64, t_ = v331 * v337 := ⟨_, rfl⟩
  refine oW.lmul (pc' := 339) K at_338 ev338 rfl ?_
  have tv338 : v338.toInt = g1 * T0 * c0 := (oLmul ev338 (by rw [tv331, tv337]; omega)).trans (by rw [tv331, tv337])
  obtain ⟨v339, ev339⟩ : ∃ t_ : Int64, t_ = v319 - v338 := ⟨_, rfl⟩
  refine oW.lsub (pc' := 340) K at_339 ev339 rfl ?_
  have tv339 : v339.toInt = R0 := by have h1 := (tv319 : v319.toInt = _); have h2 := (tv338 : v338.toInt = _); have h := oLsub ev339 (by omega); omega
  refine oW.lstore (Ls' := #[.val (.int p0), .val (.int p1), .val (.int p2), .val (.int p3), .val (.int p4), .val (.long (1099511627776 : Int64)), .second, .val (.int (4 : Int32)), .val (.int v18), .val (.int v26), .val (.int v35), .val (.long v44), .second, .val (.long v53), .second, .val (.long v62), .second, .val (.long v66), .second, .val (.long v73), .second, .val (.long v80), .second, .val (.long v87), .second, .val (.int v104), .val (.int v134), .val (.int v167), .val (.int v190), .val (.ref a195), .val (.ref a201), .val (.ref a6), .val (.long v339), .second, .unset, .unset, .unset, .unset, .unset, .unset, .unset, .unset, .unset, .unset, .unset, .unset, .unset, .unset, .unset, .unset, .unset, .unset, .unset, .unset, .unset, .unset, .unset, .unset, .unset, .unset, .unset]) (pc' := 342) K at_340 rfl rfl ?_
  refine oW.iload (pc' := 344) K at_342 rfl rfl ?_
  refine oW.iconst (v := (1 : Int32)) (pc' := 345) K at_344 (by decide) rfl ?_
  refine oW.icmp_le (pc' := 374) (pc3 := 348) K at_345 (by decide) (by decide) rfl (fun q => absurd q (by decide)) (fun _ => ?_)
  refine oW.ldc2L (pc' := 351) K (hw _ (List.mem_of_getElem? (i := 16) rfl)) at_348 rfl ?_
  refine oW.lload (pc' := 353) K at_351 rfl rfl ?_
  obtain ⟨v353, ev353⟩ : ∃ t_ : Int64, t_ = (8 : Int64) * v73 := ⟨_, rfl⟩
  refine oW.lmul (pc' := 354) K at_353 ev353 rfl ?_
  have tv353 : v353.toInt = 8 * u1 := (oLmul ev353 (by rw [(by decide : ((8 : Int64)).toInt = 8), hu1]; omega)).trans (by rw [(by decide : ((8 : Int64)).toInt = 8), hu1])
  refine oW.lload (pc' := 356) K at_354 rfl rfl ?_
  refine oW.iload (pc' := 358) K at_356 rfl rfl ?_
  refine oW.iload (pc' := 360) K at_358 rfl rfl ?_
  obtain ⟨v360, ev360⟩ : ∃ t_ : Int32, t_ = v167 + v190 := ⟨_, rfl⟩
  refine oW.iadd (pc' := 361) K at_360 ev360 rfl ?_
  have tv360 : v360.toInt = T1 := by have h1 := (tv167 : v167.toInt = _); have h2 := (hq3 : v190.toInt = _); have h := oIadd ev360 (by omega); omega
  obtain ⟨v361, ev361⟩ : ∃ t_ : Int64, t_ = v360.toInt64 := ⟨_, rfl⟩
  refine oW.i2l (pc' := 362) K at_361 ev361 rfl ?_
  have tv361 : v361.toInt = T1 := (oI2L ev361).trans tv360
  obtain ⟨v362, ev362⟩ : ∃ t_ : Int64, t_ = v53 * v361 := ⟨_, rfl⟩
  refine oW.lmul (pc' := 363) K at_362 ev362 rfl ?_
  have tv362 : v362.toInt = g2 * T1 := (oLmul ev362 (by rw [hg2, tv361]; omega)).trans (by rw [hg2, tv361])
  refine oW.bipush (v := (8 : Int32)) (pc' := 365) K at_363 (by decide) rfl ?_
  refine oW.iload (pc' := 367) K at_365 rfl rfl ?_
  obtain ⟨v367, ev367⟩ : ∃ t_ : Int32, t_ = (8 : Int32) >>> (v26 &&& 31) := ⟨_, rfl⟩
  refine oW.ishr (pc' := 368) K at_367 ev367 rfl ?_
  have tv367 : v367.toInt = c1 := (oShr8 hE1 bE1 ev367).trans hy1
  obtain ⟨v368, ev368⟩ : ∃ t_ : Int64, t_ = v367.toInt64 := ⟨_, rfl⟩
  refine oW.i2l (pc' := 369) K at_368 ev368 rfl ?_
  have tv368 : v368.toInt = c1 := (oI2L ev368).trans tv367
  obtain ⟨v369, ev369⟩ : ∃ t_ : Int64, t_ = v362 * v368 := ⟨_, rfl⟩
  refine oW.lmul (pc' := 370) K at_369 ev369 rfl ?_
  have tv369 : v369.toInt = g2 * T1 * c1 := (oLmul ev369 (by rw [tv362, tv368]; omega)).trans (by rw [tv362, tv368])
  obtain ⟨v370, ev370⟩ : ∃ t_ : Int64, t_ = v353 - v369 := ⟨_, rfl⟩
  refine oW.lsub (pc' := 371) K at_370 ev370 rfl ?_
  have tv370 : v370.toInt = R1 := by have h1 := (tv353 : v353.toInt = _); have h2 := (tv369 : v369.toInt = _); have h := oLsub ev370 (by omega); omega
  refine oW.goto (pc' := 376) K at_371 (by decide) (by decide) ?_
  refine oW.lstore (Ls' := #[.val (.int p0), .val (.int p1), .val (.int p2), .val (.int p3), .val (.int p4), .val (.long (1099511627776 : Int64)), .second, .val (.int (4 : Int32)), .val (.int v18), .val (.int v26), .val (.int v35), .val (.long v44), .second, .val (.long v53), .second, .val (.long v62), .second, .val (.long v66), .second, .val (.long v73), .second, .val (.long v80), .second, .val (.long v87), .second, .val (.int v104), .val (.int v134), .val (.int v167), .val (.int v190), .val (.ref a195), .val (.ref a201), .val (.ref a6), .val (.long v339), .second, .val (.long v370), .second, .unset, .unset, .unset, .unset, .unset, .unset, .unset, .unset, .unset, .unset, .unset, .unset, .unset, .unset, .unset, .unset, .unset, .unset, .unset, .unset, .unset, .unset, .unset, .unset, .unset]) (pc' := 378) K at_376 rfl rfl ?_
  refine oW.iload (pc' := 380) K at_378 rfl rfl ?_
  refine oW.iconst (v := (2 : Int32)) (pc' := 381) K at_380 (by decide) rfl ?_
  refine oW.icmp_le (pc' := 407) (pc3 := 384) K at_381 (by decide) (by decide) rfl (fun q => absurd q (by decide)) (fun _ => ?_)
  refine oW.ldc2L (pc' := 387) K (hw _ (List.mem_of_getElem? (i := 16) rfl)) at_384 rfl ?_
  refine oW.lload (pc' := 389) K at_387 rfl rfl ?_
  obtain ⟨v389, ev389⟩ : ∃ t_ : Int64, t_ = (8 : Int64) * v80 := ⟨_, rfl⟩
  refine oW.lmul (pc' := 390) K at_389 ev389 rfl ?_
  have tv389 : v389.toInt = 8 * u2 := (oLmul ev389 (by rw [(by decide : ((8 : Int64)).toInt = 8), hu2]; omega)).trans (by rw [(by decide : ((8 : Int64)).toInt = 8), hu2])
  refine oW.lload (pc' := 392) K at_390 rfl rfl ?_
  refine oW.iload (pc' := 394) K at_392 rfl rfl ?_
  obtain ⟨v394, ev394⟩ : ∃ t_ : Int64, t_ = v190.toInt64 := ⟨_, rfl⟩
  refine oW.i2l (pc' := 395) K at_394 ev394 rfl ?_
  have tv394 : v394.toInt = T2 := ((oI2L ev394).trans hq3).trans hT2.symm
  obtain ⟨v395, ev395⟩ : ∃ t_ : Int64, t_ = v62 * v394 := ⟨_, rfl⟩
  refine oW.lmul (pc' := 396) K at_395 ev395 rfl ?_
  have tv395 : v395.toInt = g3 * T2 := (oLmul ev395 (by rw [hg3, tv394]; omega)).trans (by rw [hg3, tv394])
  refine oW.bipush (v := (8 : Int32)) (pc' := 398) K at_396 (by decide) rfl ?_
  refine oW.iload (pc' := 400) K at_398 rfl rfl ?_
  obtain ⟨v400, ev400⟩ : ∃ t_ : Int32, t_ = (8 : Int32) >>> (v35 &&& 31) := ⟨_, rfl⟩
  refine oW.ishr (pc' := 401) K at_400 ev400 rfl ?_
  have tv400 : v400.toInt = c2 := (oShr8 hE2 bE2 ev400).trans hy2
  obtain ⟨v401, ev401⟩ : ∃ t_ : Int64, t_ = v400.toInt64 := ⟨_, rfl⟩
  refine oW.i2l (pc' := 402) K at_401 ev401 rfl ?_
  have tv401 : v401.toInt = c2 := (oI2L ev401).trans tv400
  obtain ⟨v402, ev402⟩ : ∃ t_ : Int64, t_ = v395 * v401 := ⟨_, rfl⟩
  refine oW.lmul (pc' := 403) K at_402 ev402 rfl ?_
  have tv402 : v402.toInt = g3 * T2 * c2 := (oLmul ev402 (by rw [tv395, tv401]; omega)).trans (by rw [tv395, tv401])
  obtain ⟨v403, ev403⟩ : ∃ t_ : Int64, t_ = v389 - v402 := ⟨_, rfl⟩
  refine oW.lsub (pc' := 404) K at_403 ev403 rfl ?_
  have tv403 : v403.toInt = R2 := by have h1 := (tv389 : v389.toInt = _); have h2 := (tv402 : v402.toInt = _); have h := oLsub ev403 (by omega); omega
  refine oW.goto (pc' := 409) K at_404 (by decide) (by decide) ?_
  refine oW.lstore (Ls' := #[.val (.int p0), .val (.int p1), .val (.int p2), .val (.int p3), .val (.int p4), .val (.long (1099511627776 : Int64)), .second, .val (.int (4 : Int32)), .val (.int v18), .val (.int v26), .val (.int v35), .val (.long v44), .second, .val (.long v53), .second, .val (.long v62), .second, .val (.long v66), .second, .val (.long v73), .second, .val (.long v80), .second, .val (.long v87), .second, .val (.int v104), .val (.int v134), .val (.int v167), .val (.int v190), .val (.ref a195), .val (.ref a201), .val (.ref a6), .val (.long v339), .second, .val (.long v370), .second, .val (.long v403), .second, .unset, .unset, .unset, .unset, .unset, .unset, .unset, .unset, .unset, .unset, .unset, .unset, .unset, .unset, .unset, .unset, .unset, .unset, .unset, .unset, .unset, .unset, .unset]) (pc' := 411) K at_409 rfl rfl ?_
  refine oW.iload (pc' := 413) K at_411 rfl rfl ?_
  obtain ⟨v413, ev413⟩ : ∃ t_ : Int64, t_ = v104.toInt64 := ⟨_, rfl⟩
  refine oW.i2l (pc' := 414) K at_413 ev413 rfl ?_
  have tv413 : v413.toInt = q0 := (oI2L ev413).trans tv104
  refine oW.lstore (Ls' := #[.val (.int p0), .val (.int p1), .val (.int p2), .val (.int p3), .val (.int p4), .val (.long (1099511627776 : Int64)), .second, .val (.int (4 : Int32)), .val (.int v18), .val (.int v26), .val (.int v35), .val (.long v44), .second, .val (.long v53), .second, .val (.long v62), .second, .val (.long v66), .second, .val (.long v73), .second, .val (.long v80), .second, .val (.long v87), .second, .val (.int v104), .val (.int v134), .val (.int v167), .val (.int v190), .val (.ref a195), .val (.ref a201), .val (.ref a6), .val (.long v339), .second, .val (.long v370), .second, .val (.long v403), .second, .val (.long v413), .second, .unset, .unset, .unset, .unset, .unset, .unset, .unset, .unset, .unset, .unset, .unset, .unset, .unset, .unset, .unset, .unset, .unset, .unset, .unset, .unset, .unset]) (pc' := 416) K at_414 rfl rfl ?_
  refine oW.iload (pc' := 418) K at_416 rfl rfl ?_
  refine oW.iconst (v := (1 : Int32)) (pc' := 419) K at_418 (by decide) rfl ?_
  refine oW.icmp_le (pc' := 428) (pc3 := 422) K at_419 (by decide) (by decide) rfl (fun q => absurd q (by decide)) (fun _ => ?_)
  refine oW.iload (pc' := 424) K at_422 rfl rfl ?_
  obtain ⟨v424, ev424⟩ : ∃ t_ : Int64, t_ = v134.toInt64 := ⟨_, rfl⟩
  refine oW.i2l (pc' := 425) K at_424 ev424 rfl ?_
  have tv424 : v424.toInt = q1 := (oI2L ev424).trans tv134
  refine oW.goto (pc' := 429) K at_425 (by decide) (by decide) ?_
  refine oW.lstore (Ls' := #[.val (.int p0), .val (.int p1), .val (.int p2), .val (.int p3), .val (.int p4), .val (.long (1099511627776 : Int64)), .second, .val (.int (4 : Int32)), .val (.int v18), .val (.int v26), .val (.int v35), .val (.long v44), .second, .val (.long v53), .second, .val (.long v62), .second, .val (.long v66), .second, .val (.long v73), .second, .val (.long v80), .second, .val (.long v87), .second, .val (.int v104), .val (.int v134), .val (.int v167), .val (.int v190), .val (.ref a195), .val (.ref a201), .val (.ref a6), .val (.long v339), .second, .val (.long v370), .second, .val (.long v403), .second, .val (.long v413), .second, .val (.long v424), .second, .unset, .unset, .unset, .unset, .unset, .unset, .unset, .unset, .unset, .unset, .unset, .unset, .unset, .unset, .unset, .unset, .unset, .unset, .unset]) (pc' := 431) K at_429 rfl rfl ?_
  refine oW.iload (pc' := 433) K at_431 rfl rfl ?_
  refine oW.iconst (v := (2 : Int32)) (pc' := 434) K at_433 (by decide) rfl ?_
  refine oW.icmp_le (pc' := 443) (pc3 := 437) K at_434 (by decide) (by decide) rfl (fun q => absurd q (by decide)) (fun _ => ?_)
  refine oW.iload (pc' := 439) K at_437 rfl rfl ?_
  obtain ⟨v439, ev439⟩ : ∃ t_ : Int64, t_ = v167.toInt64 := ⟨_, rfl⟩
  refine oW.i2l (pc' := 440) K at_439 ev439 rfl ?_
  have tv439 : v439.toInt = q2 := (oI2L ev439).trans tv167
  refine oW.goto (pc' := 444) K at_440 (by decide) (by decide) ?_
  refine oW.lstore (Ls' := #[.val (.int p0), .val (.int p1), .val (.int p2), .val (.int p3), .val (.int p4), .val (.long (1099511627776 : Int64)), .second, .val (.int (4 : Int32)), .val (.int v18), .val (.int v26), .val (.int v35), .val (.long v44), .second, .val (.long v53), .second, .val (.long v62), .second, .val (.long v66), .second, .val (.long v73), .second, .val (.long v80), .second, .val (.long v87), .second, .val (.int v104), .val (.int v134), .val (.int v167), .val (.int v190), .val (.ref a195), .val (.ref a201), .val (.ref a6), .val (.long v339), .second, .val (.long v370), .second, .val (.long v403), .second, .val (.long v413), .second, .val (.long v424), .second, .val (.long v439), .second, .unset, .unset, .unset, .unset, .unset, .unset, .unset, .unset, .unset, .unset, .unset, .unset, .unset, .unset, .unset, .unset, .unset]) (pc' := 446) K at_444 rfl rfl ?_
  refine oW.lload (pc' := 448) K at_446 rfl rfl ?_
  refine oW.lstore (Ls' := #[.val (.int p0), .val (.int p1), .val (.int p2), .val (.int p3), .val (.int p4), .val (.long (1099511627776 : Int64)), .second, .val (.int (4 : Int32)), .val (.int v18), .val (.int v26), .val (.int v35), .val (.long v44), .second, .val (.long v53), .second, .val (.long v62), .second, .val (.long v66), .second, .val (.long v73), .second, .val (.long v80), .second, .val (.long v87), .second, .val (.int v104), .val (.int v134), .val (.int v167), .val (.int v190), .val (.ref a195), .val (.ref a201), .val (.ref a6), .val (.long v339), .second, .val (.long v370), .second, .val (.long v403), .second, .val (.long v413), .second, .val (.long v424), .second, .val (.long v439), .second, .val (.long v339), .second, .unset, .unset, .unset, .unset, .unset, .unset, .unset, .unset, .unset, .unset, .unset, .unset, .unset, .unset, .unset]) (pc' := 450) K at_448 rfl rfl ?_
  refine oW.ldc2L (pc' := 453) K (hw _ (List.mem_of_getElem? (i := 16) rfl)) at_450 rfl ?_
  refine oW.lstore (Ls' := #[.val (.int p0), .val (.int p1), .val (.int p2), .val (.int p3), .val (.int p4), .val (.long (1099511627776 : Int64)), .second, .val (.int (4 : Int32)), .val (.int v18), .val (.int v26), .val (.int v35), .val (.long v44), .second, .val (.long v53), .second, .val (.long v62), .second, .val (.long v66), .second, .val (.long v73), .second, .val (.long v80), .second, .val (.long v87), .second, .val (.int v104), .val (.int v134), .val (.int v167), .val (.int v190), .val (.ref a195), .val (.ref a201), .val (.ref a6), .val (.long v339), .second, .val (.long v370), .second, .val (.long v403), .second, .val (.long v413), .second, .val (.long v424), .second, .val (.long v439), .second, .val (.long v339), .second, .val (.long (8 : Int64)), .second, .unset, .unset, .unset, .unset, .unset, .unset, .unset, .unset, .unset, .unset, .unset, .unset, .unset]) (pc' := 455) K at_453 rfl rfl ?_
  refine oW.lload (pc' := 457) K at_455 rfl rfl ?_
  refine oW.lstore (Ls' := #[.val (.int p0), .val (.int p1), .val (.int p2), .val (.int p3), .val (.int p4), .val (.long (1099511627776 : Int64)), .second, .val (.int (4 : Int32)), .val (.int v18), .val (.int v26), .val (.int v35), .val (.long v44), .second, .val (.long v53), .second, .val (.long v62), .second, .val (.long v66), .second, .val (.long v73), .second, .val (.long v80), .second, .val (.long v87), .second, .val (.int v104), .val (.int v134), .val (.int v167), .val (.int v190), .val (.ref a195), .val (.ref a201), .val (.ref a6), .val (.long v339), .second, .val (.long v370), .second, .val (.long v403), .second, .val (.long v413), .second, .val (.long v424), .second, .val (.long v439), .second, .val (.long v339), .second, .val (.long (8 : Int64)), .second, .val (.long v370), .second, .unset, .unset, .unset, .unset, .unset, .unset, .unset, .unset, .unset, .unset, .unset]) (pc' := 459) K at_457 rfl rfl ?_
  refine oW.ldc2L (pc' := 462) K (hw _ (List.mem_of_getElem? (i := 16) rfl)) at_459 rfl ?_
  refine oW.lstore (Ls' := #[.val (.int p0), .val (.int p1), .val (.int p2), .val (.int p3), .val (.int p4), .val (.long (1099511627776 : Int64)), .second, .val (.int (4 : Int32)), .val (.int v18), .val (.int v26), .val (.int v35), .val (.long v44), .second, .val (.long v53), .second, .val (.long v62), .second, .val (.long v66), .second, .val (.long v73), .second, .val (.long v80), .second, .val (.long v87), .second, .val (.int v104), .val (.int v134), .val (.int v167), .val (.int v190), .val (.ref a195), .val (.ref a201), .val (.ref a6), .val (.long v339), .second, .val (.long v370), .second, .val (.long v403), .second, .val (.long v413), .second, .val (.long v424), .second, .val (.long v439), .second, .val (.long v339), .second, .val (.long (8 : Int64)), .second, .val (.long v370), .second, .val (.long (8 : Int64)), .second, .unset, .unset, .unset, .unset, .unset, .unset, .unset, .unset, .unset]) (pc' := 464) K at_462 rfl rfl ?_
  refine oW.lload (pc' := 466) K at_464 rfl rfl ?_
  refine oW.lstore (Ls' := #[.val (.int p0), .val (.int p1), .val (.int p2), .val (.int p3), .val (.int p4), .val (.long (1099511627776 : Int64)), .second, .val (.int (4 : Int32)), .val (.int v18), .val (.int v26), .val (.int v35), .val (.long v44), .second, .val (.long v53), .second, .val (.long v62), .second, .val (.long v66), .second, .val (.long v73), .second, .val (.long v80), .second, .val (.long v87), .second, .val (.int v104), .val (.int v134), .val (.int v167), .val (.int v190), .val (.ref a195), .val (.ref a201), .val (.ref a6), .val (.long v339), .second, .val (.long v370), .second, .val (.long v403), .second, .val (.long v413), .second, .val (.long v424), .second, .val (.long v439), .second, .val (.long v339), .second, .val (.long (8 : Int64)), .second, .val (.long v370), .second, .val (.long (8 : Int64)), .second, .val (.long v403), .second, .unset, .unset, .unset, .unset, .unset, .unset, .unset]) (pc' := 468) K at_466 rfl rfl ?_
  refine oW.ldc2L (pc' := 471) K (hw _ (List.mem_of_getElem? (i := 16) rfl)) at_468 rfl ?_
  refine oW.lstore (Ls' := #[.val (.int p0), .val (.int p1), .val (.int p2), .val (.int p3), .val (.int p4), .val (.long (1099511627776 : Int64)), .second, .val (.int (4 : Int32)), .val (.int v18), .val (.int v26), .val (.int v35), .val (.long v44), .second, .val (.long v53), .second, .val (.long v62), .second, .val (.long v66), .second, .val (.long v73), .second, .val (.long v80), .second, .val (.long v87), .second, .val (.int v104), .val (.int v134), .val (.int v167), .val (.int v190), .val (.ref a195), .val (.ref a201), .val (.ref a6), .val (.long v339), .second, .val (.long v370), .second, .val (.long v403), .second, .val (.long v413), .second, .val (.long v424), .second, .val (.long v439), .second, .val (.long v339), .second, .val (.long (8 : Int64)), .second, .val (.long v370), .second, .val (.long (8 : Int64)), .second, .val (.long v403), .second, .val (.long (8 : Int64)), .second, .unset, .unset, .unset, .unset, .unset]) (pc' := 473) K at_471 rfl rfl ?_
  refine oW.lload (pc' := 475) K at_473 rfl rfl ?_
  refine oW.lload (pc' := 477) K at_475 rfl rfl ?_
  obtain ⟨v477, ev477⟩ : ∃ t_ : Int64, t_ = v413 * v339 := ⟨_, rfl⟩
  refine oW.lmul (pc' := 478) K at_477 ev477 rfl ?_
  have tv477 : v477.toInt = q0 * R0 := (oLmul ev477 (by rw [tv413, tv339]; omega)).trans (by rw [tv413, tv339])
  refine oW.lload (pc' := 480) K at_478 rfl rfl ?_
  refine oW.lload (pc' := 482) K at_480 rfl rfl ?_
  obtain ⟨v482, ev482⟩ : ∃ t_ : Int64, t_ = v424 * v370 := ⟨_, rfl⟩
  refine oW.lmul (pc' := 483) K at_482 ev482 rfl ?_
  have tv482 : v482.toInt = q1 * R1 := (oLmul ev482 (by rw [tv424, tv370]; omega)).trans (by rw [tv424, tv370])
  obtain ⟨v483, ev483⟩ : ∃ t_ : Int64, t_ = v477 + v482 := ⟨_, rfl⟩
  refine oW.ladd (pc' := 484) K at_483 ev483 rfl ?_
  have tv483 : v483.toInt = q0 * R0 + q1 * R1 := by have h1 := (tv477 : v477.toInt = _); have h2 := (tv482 : v482.toInt = _); have h := oLadd ev483 (by omega); omega
  refine oW.lload (pc' := 486) K at_484 rfl rfl ?_
  refine oW.lload (pc' := 488) K at_486 rfl rfl ?_
  obtain ⟨v488, ev488⟩ : ∃ t_ : Int64, t_ = v439 * v403 := ⟨_, rfl⟩
  refine oW.lmul (pc' := 489) K at_488 ev488 rfl ?_
  have tv488 : v488.toInt = q2 * R2 := (oLmul ev488 (by rw [tv439, tv403]; omega)).trans (by rw [tv439, tv403])
  obtain ⟨v489, ev489⟩ : ∃ t_ : Int64, t_ = v483 + v488 := ⟨_, rfl⟩
  refine oW.ladd (pc' := 490) K at_489 ev489 rfl ?_
  have tv489 : v489.toInt = q0 * R0 + q1 * R1 + q2 * R2 := by have h1 := (tv483 : v483.toInt = _); have h2 := (tv488 : v488.toInt = _); have h := oLadd ev489 (by omega); omega
  refine oW.lstore (Ls' := #[.val (.int p0), .val (.int p1), .val (.int p2), .val (.int p3), .val (.int p4), .val (.long (1099511627776 : Int64)), .second, .val (.int (4 : Int32)), .val (.int v18), .val (.int v26), .val (.int v35), .val (.long v44), .second, .val (.long v53), .second, .val (.long v62), .second, .val (.long v66), .second, .val (.long v73), .second, .val (.long v80), .second, .val (.long v87), .second, .val (.int v104), .val (.int v134), .val (.int v167), .val (.int v190), .val (.ref a195), .val (.ref a201), .val (.ref a6), .val (.long v339), .second, .val (.long v370), .second, .val (.long v403), .second, .val (.long v413), .second, .val (.long v424), .second, .val (.long v439), .second, .val (.long v339), .second, .val (.long (8 : Int64)), .second, .val (.long v370), .second, .val (.long (8 : Int64)), .second, .val (.long v403), .second, .val (.long (8 : Int64)), .second, .val (.long v489), .second, .unset, .unset, .unset]) (pc' := 492) K at_490 rfl rfl ?_
  refine oW.ldc2L (pc' := 495) K (hw _ (List.mem_of_getElem? (i := 16) rfl)) at_492 rfl ?_
  refine oW.lload (pc' := 497) K at_495 rfl rfl ?_
  refine oW.lload (pc' := 499) K at_497 rfl rfl ?_
  obtain ⟨v499, ev499⟩ : ∃ t_ : Int64, t_ = v413 + v424 := ⟨_, rfl⟩
  refine oW.ladd (pc' := 500) K at_499 ev499 rfl ?_
  have tv499 : v499.toInt = q0 + q1 := by have h1 := (tv413 : v413.toInt = _); have h2 := (tv424 : v424.toInt = _); have h := oLadd ev499 (by omega); omega
  refine oW.lload (pc' := 502) K at_500 rfl rfl ?_
  obtain ⟨v502, ev502⟩ : ∃ t_ : Int64, t_ = v499 + v439 := ⟨_, rfl⟩
  refine oW.ladd (pc' := 503) K at_502 ev502 rfl ?_
  have tv502 : v502.toInt = q0 + q1 + q2 := by have h1 := (tv499 : v499.toInt = _); have h2 := (tv439 : v439.toInt = _); have h := oLadd ev502 (by omega); omega
  obtain ⟨v503, ev503⟩ : ∃ t_ : Int64, t_ = (8 : Int64) * v502 := ⟨_, rfl⟩
  refine oW.lmul (pc' := 504) K at_503 ev503 rfl ?_
  have tv503 : v503.toInt = 8 * (q0 + q1 + q2) := (oLmul ev503 (by rw [(by decide : ((8 : Int64)).toInt = 8), tv502]; omega)).trans (by rw [(by decide : ((8 : Int64)).toInt = 8), tv502])
  refine oW.lstore (Ls' := #[.val (.int p0), .val (.int p1), .val (.int p2), .val (.int p3), .val (.int p4), .val (.long (1099511627776 : Int64)), .second, .val (.int (4 : Int32)), .val (.int v18), .val (.int v26), .val (.int v35), .val (.long v44), .second, .val (.long v53), .second, .val (.long v62), .second, .val (.long v66), .second, .val (.long v73), .second, .val (.long v80), .second, .val (.long v87), .second, .val (.int v104), .val (.int v134), .val (.int v167), .val (.int v190), .val (.ref a195), .val (.ref a201), .val (.ref a6), .val (.long v339), .second, .val (.long v370), .second, .val (.long v403), .second, .val (.long v413), .second, .val (.long v424), .second, .val (.long v439), .second, .val (.long v339), .second, .val (.long (8 : Int64)), .second, .val (.long v370), .second, .val (.long (8 : Int64)), .second, .val (.long v403), .second, .val (.long (8 : Int64)), .second, .val (.long v489), .second, .val (.long v503), .second, .unset]) (pc' := 506) K at_504 rfl rfl ?_
  try clear tv9
  try clear tv18
  try clear tv26
  try clear tv35
  try clear tv41
  try clear tv42
  try clear tv44
  try clear tv50
  try clear tv51
  try clear tv53
  try clear tv59
  try clear tv60
  try clear tv62
  try clear tv66
  try clear tv73
  try clear tv80
  try clear tv87
  try clear tv104
  try clear tv134
  try clear tv167
  try clear tv184
  try clear tv187
  try clear tv190
  try clear tv319
  try clear tv326
  try clear tv329
  try clear tv330
  try clear tv331
  try clear tv336
  try clear tv337
  try clear tv338
  try clear tv353
  try clear tv360
  try clear tv361
  try clear tv362
  try clear tv367
  try clear tv368
  try clear tv369
  try clear tv389
  try clear tv394
  try clear tv395
  try clear tv400
  try clear tv401
  try clear tv402
  try clear tv477
  try clear tv482
  try clear tv483
  try clear tv488
  try clear tv499
  try clear tv502
  have bR0 : -68719476736 ≤ R0 ∧ R0 ≤ 68719476736 := by omega
  have bR1 : -68719476736 ≤ R1 ∧ R1 ≤ 68719476736 := by omega
  have bR2 : -68719476736 ≤ R2 ∧ R2 ≤ 68719476736 := by omega
  skip
  try clear hP0
  try clear hP1
  try clear hP2
  try clear hPc0
  try clear hPc1
  try clear hPc2
  try clear hR0
  try clear hR1
  try clear hR2
  try clear hT0
  try clear hT1
  try clear hT2
  try clear bg1
  try clear bg2
  try clear bg3
  try clear du0
  try clear du1
  try clear du2
  try clear bc0
  try clear bc1
  try clear bc2
  try clear hqc0
  try clear hqc1
  try clear hqc2
  try clear hx0
  try clear hx1
  try clear hx2
  try clear hy0
  try clear hy1
  try clear hy2
  try clear bu0
  try clear bu1
  try clear bu2
  try clear hg1
  try clear hg2
  try clear hg3
  try clear hu0
  try clear hu1
  try clear hu2
  try clear hE0
  try clear hE1
  try clear hE2
  try clear bE0
  try clear bE1
  try clear bE2
  have hW01 := oMBw (W := q0 + q1) (R := R2) (by omega) (by omega)
  have hW12 := oMBw (W := q1 + q2) (R := R0) (by omega) (by omega)
  rcases hir with ⟨z1, z2, q0v, q1v, q2v⟩ | ⟨z1, z2, z3, q0v, q1v, rfl⟩ | ⟨z1, z2, z3, q0v, rfl, rfl⟩ | ⟨z1, z2, q0v, rfl, q2v⟩ | ⟨z1, z2, q0v, rfl, rfl⟩
  · refine oW.lload (pc' := 508) K at_506 rfl rfl ?_
    refine oW.lload (pc' := 510) K at_508 rfl rfl ?_
    obtain ⟨v510, ev510⟩ : ∃ t_ : Int32, t_ = XT.cmpL v339 v370 := ⟨_, rfl⟩
    refine oW.lcmp (pc' := 511) K at_510 ev510 rfl ?_
    refine oW.if_gt (pc' := 607) (pc3 := 514) K at_511 (by decide) (by decide) rfl (fun q => absurd ((oLcmp ev510).2.2.mp q) (by have := (tv339 : v339.toInt = _); have := (tv370 : v370.toInt = _); omega)) (fun c511 => ?_)
    refine oW.lload (pc' := 516) K at_514 rfl rfl ?_
    refine oW.lload (pc' := 518) K at_516 rfl rfl ?_
    obtain ⟨v518, ev518⟩ : ∃ t_ : Int32, t_ = XT.cmpL v370 v403 := ⟨_, rfl⟩
    refine oW.lcmp (pc' := 519) K at_518 ev518 rfl ?_
    refine oW.if_le (pc' := 689) (pc3 := 522) K at_519 (by decide) (by decide) rfl (fun c519 => ?_) (fun q => absurd ((oLcmp ev518).2.2.mp q) (by have := (tv370 : v370.toInt = _); have := (tv403 : v403.toInt = _); omega))
    refine oW.aload (pc' := 691) K at_689 rfl rfl rfl ?_
    refine oW.iconst (v := (0 : Int32)) (pc' := 692) K at_691 (by decide) rfl ?_
    refine oW.daload (i := 6) (k := 0) (pc' := 693) K at_692 rfl rfl (by decide) rfl rfl ?_
    refine oW.lload (pc' := 695) K at_693 rfl rfl ?_
    refine oW.lload (pc' := 697) K at_695 rfl rfl ?_
    refine oW.callS (argsL := [(.double v0), (.long v339), (.long (8 : Int64))]) (S := []) (rm := ({ frames := 0, cells := 0, slots := 0, locals := 0 } : Room)) (W := 0) (cells' := 7) (slots' := 28) (pc' := 700) K (hw _ (List.mem_of_getElem? (i := 17) rfl)) (hw _ (List.mem_of_getElem? (i := 18) rfl)) (hw _ (List.mem_of_getElem? (i := 19) rfl)) (hw _ (List.mem_of_getElem? (i := 20) rfl)) (by decide) (own_sameQ hw q0v (tv339) ((by decide : ((8 : Int64)).toInt = 8)) (by omega)) (lenOf pd_3 rfl) at_697 rfl rfl (Nat.le_of_eq rfl) (by decide) (by decide) (by decide) (by decide) rfl rfl rfl ?_
    rintro _ _ ⟨rfl, rfl⟩
    refine oW.istore (Ls' := #[.val (.int p0), .val (.int p1), .val (.int p2), .val (.int p3), .val (.int p4), .val (.long (1099511627776 : Int64)), .second, .val (.int (4 : Int32)), .val (.int v18), .val (.int v26), .val (.int v35), .val (.long v44), .second, .val (.long v53), .second, .val (.long v62), .second, .val (.long v66), .second, .val (.long v73), .second, .val (.long v80), .second, .val (.long v87), .second, .val (.int v104), .val (.int v134), .val (.int v167), .val (.int v190), .val (.ref a195), .val (.ref a201), .val (.ref a6), .val (.long v339), .second, .val (.long v370), .second, .val (.long v403), .second, .val (.long v413), .second, .val (.long v424), .second, .val (.long v439), .second, .val (.long v339), .second, .val (.long (8 : Int64)), .second, .val (.long v370), .second, .val (.long (8 : Int64)), .second, .val (.long v403), .second, .val (.long (8 : Int64)), .second, .val (.long v489), .second, .val (.long v503), .second, .val (.int (1 : Int32))]) (pc' := 702) K at_700 rfl rfl ?_
    refine oW.iload (pc' := 704) K at_702 rfl rfl ?_
    refine oW.iconst (v := (1 : Int32)) (pc' := 705) K at_704 (by decide) rfl ?_
    refine oW.icmp_le (pc' := 734) (pc3 := 708) K at_705 (by decide) (by decide) rfl (fun q => absurd q (by decide)) (fun _ => ?_)
    refine oW.iload (pc' := 710) K at_708 rfl rfl ?_
    refine oW.if_eq (pc' := 731) (pc3 := 713) K at_710 (by decide) (by decide) rfl (fun q => absurd q (by decide)) (fun _ => ?_)
    refine oW.aload (pc' := 715) K at_713 rfl rfl rfl ?_
    refine oW.iconst (v := (1 : Int32)) (pc' := 716) K at_715 (by decide) rfl ?_
    refine oW.daload (i := 6) (k := 1) (pc' := 717) K at_716 rfl rfl (by decide) rfl rfl ?_
    refine oW.lload (pc' := 719) K at_717 rfl rfl ?_
    refine oW.lload (pc' := 721) K at_719 rfl rfl ?_
    refine oW.callS (argsL := [(.double v1), (.long v370), (.long (8 : Int64))]) (S := []) (rm := ({ frames := 0, cells := 0, slots := 0, locals := 0 } : Room)) (W := 0) (cells' := 7) (slots' := 28) (pc' := 724) K (hw _ (List.mem_of_getElem? (i := 17) rfl)) (hw _ (List.mem_of_getElem? (i := 18) rfl)) (hw _ (List.mem_of_getElem? (i := 19) rfl)) (hw _ (List.mem_of_getElem? (i := 20) rfl)) (by decide) (own_sameQ hw q1v (tv370) ((by decide : ((8 : Int64)).toInt = 8)) (by omega)) (lenOf pd_3 rfl) at_721 rfl rfl (Nat.le_of_eq rfl) (by decide) (by decide) (by decide) (by decide) rfl rfl rfl ?_
    rintro _ _ ⟨rfl, rfl⟩
    refine oW.if_eq (pc' := 731) (pc3 := 727) K at_724 (by decide) (by decide) rfl (fun q => absurd q (by decide)) (fun _ => ?_)
    refine oW.iconst (v := (1 : Int32)) (pc' := 728) K at_727 (by decide) rfl ?_
    refine oW.goto (pc' := 732) K at_728 (by decide) (by decide) ?_
    refine oW.istore (Ls' := #[.val (.int p0), .val (.int p1), .val (.int p2), .val (.int p3), .val (.int p4), .val (.long (1099511627776 : Int64)), .second, .val (.int (4 : Int32)), .val (.int v18), .val (.int v26), .val (.int v35), .val (.long v44), .second, .val (.long v53), .second, .val (.long v62), .second, .val (.long v66), .second, .val (.long v73), .second, .val (.long v80), .second, .val (.long v87), .second, .val (.int v104), .val (.int v134), .val (.int v167), .val (.int v190), .val (.ref a195), .val (.ref a201), .val (.ref a6), .val (.long v339), .second, .val (.long v370), .second, .val (.long v403), .second, .val (.long v413), .second, .val (.long v424), .second, .val (.long v439), .second, .val (.long v339), .second, .val (.long (8 : Int64)), .second, .val (.long v370), .second, .val (.long (8 : Int64)), .second, .val (.long v403), .second, .val (.long (8 : Int64)), .second, .val (.long v489), .second, .val (.long v503), .second, .val (.int (1 : Int32))]) (pc' := 734) K at_732 rfl rfl ?_
    refine oW.iload (pc' := 736) K at_734 rfl rfl ?_
    refine oW.iconst (v := (2 : Int32)) (pc' := 737) K at_736 (by decide) rfl ?_
    refine oW.icmp_le (pc' := 766) (pc3 := 740) K at_737 (by decide) (by decide) rfl (fun q => absurd q (by decide)) (fun _ => ?_)
    refine oW.iload (pc' := 742) K at_740 rfl rfl ?_
    refine oW.if_eq (pc' := 763) (pc3 := 745) K at_742 (by decide) (by decide) rfl (fun q => absurd q (by decide)) (fun _ => ?_)
    refine oW.aload (pc' := 747) K at_745 rfl rfl rfl ?_
    refine oW.iconst (v := (2 : Int32)) (pc' := 748) K at_747 (by decide) rfl ?_
    refine oW.daload (i := 6) (k := 2) (pc' := 749) K at_748 rfl rfl (by decide) rfl rfl ?_
    refine oW.lload (pc' := 751) K at_749 rfl rfl ?_
    refine oW.lload (pc' := 753) K at_751 rfl rfl ?_
    refine oW.callS (argsL := [(.double v2), (.long v403), (.long (8 : Int64))]) (S := []) (rm := ({ frames := 0, cells := 0, slots := 0, locals := 0 } : Room)) (W := 0) (cells' := 7) (slots' := 28) (pc' := 756) K (hw _ (List.mem_of_getElem? (i := 17) rfl)) (hw _ (List.mem_of_getElem? (i := 18) rfl)) (hw _ (List.mem_of_getElem? (i := 19) rfl)) (hw _ (List.mem_of_getElem? (i := 20) rfl)) (by decide) (own_sameQ hw q2v (tv403) ((by decide : ((8 : Int64)).toInt = 8)) (by omega)) (lenOf pd_3 rfl) at_753 rfl rfl (Nat.le_of_eq rfl) (by decide) (by decide) (by decide) (by decide) rfl rfl rfl ?_
    rintro _ _ ⟨rfl, rfl⟩
    refine oW.if_eq (pc' := 763) (pc3 := 759) K at_756 (by decide) (by decide) rfl (fun q => absurd q (by decide)) (fun _ => ?_)
    refine oW.iconst (v := (1 : Int32)) (pc' := 760) K at_759 (by decide) rfl ?_
    refine oW.goto (pc' := 764) K at_760 (by decide) (by decide) ?_
    refine oW.istore (Ls' := #[.val (.int p0), .val (.int p1), .val (.int p2), .val (.int p3), .val (.int p4), .val (.long (1099511627776 : Int64)), .second, .val (.int (4 : Int32)), .val (.int v18), .val (.int v26), .val (.int v35), .val (.long v44), .second, .val (.long v53), .second, .val (.long v62), .second, .val (.long v66), .second, .val (.long v73), .second, .val (.long v80), .second, .val (.long v87), .second, .val (.int v104), .val (.int v134), .val (.int v167), .val (.int v190), .val (.ref a195), .val (.ref a201), .val (.ref a6), .val (.long v339), .second, .val (.long v370), .second, .val (.long v403), .second, .val (.long v413), .second, .val (.long v424), .second, .val (.long v439), .second, .val (.long v339), .second, .val (.long (8 : Int64)), .second, .val (.long v370), .second, .val (.long (8 : Int64)), .second, .val (.long v403), .second, .val (.long (8 : Int64)), .second, .val (.long v489), .second, .val (.long v503), .second, .val (.int (1 : Int32))]) (pc' := 766) K at_764 rfl rfl ?_
    refine oW.iload (pc' := 768) K at_766 rfl rfl ?_
    refine oW.iconst (v := (3 : Int32)) (pc' := 769) K at_768 (by decide) rfl ?_
    refine oW.icmp_le (pc' := 795) (pc3 := 772) K at_769 (by decide) (by decide) rfl (fun q => absurd q (by decide)) (fun _ => ?_)
    refine oW.iload (pc' := 774) K at_772 rfl rfl ?_
    refine oW.if_eq (pc' := 792) (pc3 := 777) K at_774 (by decide) (by decide) rfl (fun q => absurd q (by decide)) (fun _ => ?_)
    refine oW.aload (pc' := 779) K at_777 rfl rfl rfl ?_
    refine oW.iconst (v := (3 : Int32)) (pc' := 780) K at_779 (by decide) rfl ?_
    refine oW.daload (i := 6) (k := 3) (pc' := 781) K at_780 rfl rfl (by decide) rfl rfl ?_
    refine oW.lload (pc' := 783) K at_781 rfl rfl ?_
    obtain ⟨v783, ev783⟩ : ∃ t_ : UInt64, t_ = FP.l2d v87 := ⟨_, rfl⟩
    have qv783 : oQ (u3) 0 v783 := oQ.int (hu3 ▸ oL2D ev783 (by have h1 := hu3; omega))
    refine oW.l2d (pc' := 784) K at_783 ev783 rfl ?_
    obtain ⟨v784, ev784⟩ : ∃ t_ : Int32, t_ = cmpValue (FP.dcmp v3 v783) .l := ⟨_, rfl⟩
    refine oW.dcmp (pc' := 785) K at_784 ev784 rfl ?_
    refine oW.if_ne (pc' := 792) (pc3 := 788) K at_785 (by decide) (by decide) rfl (fun q => absurd ((q3v.cmp (qv783.up 3 rfl (by decide) hRl) ev784).2.1.mpr rfl) q) (fun c785 => ?_)
    refine oW.iconst (v := (1 : Int32)) (pc' := 789) K at_788 (by decide) rfl ?_
    refine oW.goto (pc' := 793) K at_789 (by decide) (by decide) ?_
    refine oW.istore (Ls' := #[.val (.int p0), .val (.int p1), .val (.int p2), .val (.int p3), .val (.int p4), .val (.long (1099511627776 : Int64)), .second, .val (.int (4 : Int32)), .val (.int v18), .val (.int v26), .val (.int v35), .val (.long v44), .second, .val (.long v53), .second, .val (.long v62), .second, .val (.long v66), .second, .val (.long v73), .second, .val (.long v80), .second, .val (.long v87), .second, .val (.int v104), .val (.int v134), .val (.int v167), .val (.int v190), .val (.ref a195), .val (.ref a201), .val (.ref a6), .val (.long v339), .second, .val (.long v370), .second, .val (.long v403), .second, .val (.long v413), .second, .val (.long v424), .second, .val (.long v439), .second, .val (.long v339), .second, .val (.long (8 : Int64)), .second, .val (.long v370), .second, .val (.long (8 : Int64)), .second, .val (.long v403), .second, .val (.long (8 : Int64)), .second, .val (.long v489), .second, .val (.long v503), .second, .val (.int (1 : Int32))]) (pc' := 795) K at_793 rfl rfl ?_
    refine oW.iload (pc' := 797) K at_795 rfl rfl ?_
    exact oW.retB K rfl at_797 (by decide) (by decide) ⟨_, rfl, rfl⟩
  · refine oW.lload (pc' := 508) K at_506 rfl rfl ?_
    refine oW.lload (pc' := 510) K at_508 rfl rfl ?_
    obtain ⟨v510, ev510⟩ : ∃ t_ : Int32, t_ = XT.cmpL v339 v370 := ⟨_, rfl⟩
    refine oW.lcmp (pc' := 511) K at_510 ev510 rfl ?_
    refine oW.if_gt (pc' := 607) (pc3 := 514) K at_511 (by decide) (by decide) rfl (fun q => absurd ((oLcmp ev510).2.2.mp q) (by have := (tv339 : v339.toInt = _); have := (tv370 : v370.toInt = _); omega)) (fun c511 => ?_)
    refine oW.lload (pc' := 516) K at_514 rfl rfl ?_
    refine oW.lload (pc' := 518) K at_516 rfl rfl ?_
    obtain ⟨v518, ev518⟩ : ∃ t_ : Int32, t_ = XT.cmpL v370 v403 := ⟨_, rfl⟩
    refine oW.lcmp (pc' := 519) K at_518 ev518 rfl ?_
    refine oW.if_le (pc' := 689) (pc3 := 522) K at_519 (by decide) (by decide) rfl (fun q => absurd q (by rw [(oLcmp ev518).2.2]; have := (tv370 : v370.toInt = _); have := (tv403 : v403.toInt = _); omega)) (fun c519 => ?_)
    refine oW.lload (pc' := 524) K at_522 rfl rfl ?_
    refine oW.lload (pc' := 526) K at_524 rfl rfl ?_
    refine oW.lload (pc' := 528) K at_526 rfl rfl ?_
    obtain ⟨v528, ev528⟩ : ∃ t_ : Int64, t_ = v424 + v439 := ⟨_, rfl⟩
    refine oW.ladd (pc' := 529) K at_528 ev528 rfl ?_
    have tv528 : v528.toInt = q1 + q2 := by have h1 := (tv424 : v424.toInt = _); have h2 := (tv439 : v439.toInt = _); have h := oLadd ev528 (by omega); omega
    obtain ⟨v529, ev529⟩ : ∃ t_ : Int64, t_ = v339 * v528 := ⟨_, rfl⟩
    refine oW.lmul (pc' := 530) K at_529 ev529 rfl ?_
    have tv529 : v529.toInt = R0 * (q1 + q2) := (oLmul ev529 (by rw [tv339, tv528]; omega)).trans (by rw [tv339, tv528])
    refine oW.lload (pc' := 532) K at_530 rfl rfl ?_
    refine oW.lload (pc' := 534) K at_532 rfl rfl ?_
    obtain ⟨v534, ev534⟩ : ∃ t_ : Int64, t_ = v424 * v370 := ⟨_, rfl⟩
    refine oW.lmul (pc' := 535) K at_534 ev534 rfl ?_
    have tv534 : v534.toInt = q1 * R1 := (oLmul ev534 (by rw [tv424, tv370]; omega)).trans (by rw [tv424, tv370])
    refine oW.lload (pc' := 537) K at_535 rfl rfl ?_
    refine oW.lload (pc' := 539) K at_537 rfl rfl ?_
    obtain ⟨v539, ev539⟩ : ∃ t_ : Int64, t_ = v439 * v403 := ⟨_, rfl⟩
    refine oW.lmul (pc' := 540) K at_539 ev539 rfl ?_
    have tv539 : v539.toInt = q2 * R2 := (oLmul ev539 (by rw [tv439, tv403]; omega)).trans (by rw [tv439, tv403])
    obtain ⟨v540, ev540⟩ : ∃ t_ : Int64, t_ = v534 + v539 := ⟨_, rfl⟩
    refine oW.ladd (pc' := 541) K at_540 ev540 rfl ?_
    have tv540 : v540.toInt = q1 * R1 + q2 * R2 := by have h1 := (tv534 : v534.toInt = _); have h2 := (tv539 : v539.toInt = _); have h := oLadd ev540 (by omega); omega
    obtain ⟨v541, ev541⟩ : ∃ t_ : Int32, t_ = XT.cmpL v529 v540 := ⟨_, rfl⟩
    refine oW.lcmp (pc' := 542) K at_541 ev541 rfl ?_
    refine oW.if_gt (pc' := 580) (pc3 := 545) K at_542 (by decide) (by decide) rfl (fun q => absurd ((oLcmp ev541).2.2.mp q) (by have := (tv529 : v529.toInt = _); have := (tv540 : v540.toInt = _); omega)) (fun c542 => ?_)
    refine oW.lload (pc' := 547) K at_545 rfl rfl ?_
    refine oW.lload (pc' := 549) K at_547 rfl rfl ?_
    obtain ⟨v549, ev549⟩ : ∃ t_ : Int64, t_ = v424 * v370 := ⟨_, rfl⟩
    refine oW.lmul (pc' := 550) K at_549 ev549 rfl ?_
    have tv549 : v549.toInt = q1 * R1 := (oLmul ev549 (by rw [tv424, tv370]; omega)).trans (by rw [tv424, tv370])
    refine oW.lload (pc' := 552) K at_550 rfl rfl ?_
    refine oW.lload (pc' := 554) K at_552 rfl rfl ?_
    obtain ⟨v554, ev554⟩ : ∃ t_ : Int64, t_ = v439 * v403 := ⟨_, rfl⟩
    refine oW.lmul (pc' := 555) K at_554 ev554 rfl ?_
    have tv554 : v554.toInt = q2 * R2 := (oLmul ev554 (by rw [tv439, tv403]; omega)).trans (by rw [tv439, tv403])
    obtain ⟨v555, ev555⟩ : ∃ t_ : Int64, t_ = v549 + v554 := ⟨_, rfl⟩
    refine oW.ladd (pc' := 556) K at_555 ev555 rfl ?_
    have tv555 : v555.toInt = q1 * R1 + q2 * R2 := by have h1 := (tv549 : v549.toInt = _); have h2 := (tv554 : v554.toInt = _); have h := oLadd ev555 (by omega); omega
    refine oW.lstore (Ls' := #[.val (.int p0), .val (.int p1), .val (.int p2), .val (.int p3), .val (.int p4), .val (.long (1099511627776 : Int64)), .second, .val (.int (4 : Int32)), .val (.int v18), .val (.int v26), .val (.int v35), .val (.long v44), .second, .val (.long v53), .second, .val (.long v62), .second, .val (.long v66), .second, .val (.long v73), .second, .val (.long v80), .second, .val (.long v87), .second, .val (.int v104), .val (.int v134), .val (.int v167), .val (.int v190), .val (.ref a195), .val (.ref a201), .val (.ref a6), .val (.long v339), .second, .val (.long v370), .second, .val (.long v403), .second, .val (.long v413), .second, .val (.long v424), .second, .val (.long v439), .second, .val (.long v339), .second, .val (.long (8 : Int64)), .second, .val (.long v555), .second, .val (.long (8 : Int64)), .second, .val (.long v403), .second, .val (.long (8 : Int64)), .second, .val (.long v489), .second, .val (.long v503), .second, .unset]) (pc' := 558) K at_556 rfl rfl ?_
    refine oW.ldc2L (pc' := 561) K (hw _ (List.mem_of_getElem? (i := 16) rfl)) at_558 rfl ?_
    refine oW.lload (pc' := 563) K at_561 rfl rfl ?_
    refine oW.lload (pc' := 565) K at_563 rfl rfl ?_
    obtain ⟨v565, ev565⟩ : ∃ t_ : Int64, t_ = v424 + v439 := ⟨_, rfl⟩
    refine oW.ladd (pc' := 566) K at_565 ev565 rfl ?_
    have tv565 : v565.toInt = q1 + q2 := by have h1 := (tv424 : v424.toInt = _); have h2 := (tv439 : v439.toInt = _); have h := oLadd ev565 (by omega); omega
    obtain ⟨v566, ev566⟩ : ∃ t_ : Int64, t_ = (8 : Int64) * v565 := ⟨_, rfl⟩
    refine oW.lmul (pc' := 567) K at_566 ev566 rfl ?_
    have tv566 : v566.toInt = 8 * (q1 + q2) := (oLmul ev566 (by rw [(by decide : ((8 : Int64)).toInt = 8), tv565]; omega)).trans (by rw [(by decide : ((8 : Int64)).toInt = 8), tv565])
    refine oW.lstore (Ls' := #[.val (.int p0), .val (.int p1), .val (.int p2), .val (.int p3), .val (.int p4), .val (.long (1099511627776 : Int64)), .second, .val (.int (4 : Int32)), .val (.int v18), .val (.int v26), .val (.int v35), .val (.long v44), .second, .val (.long v53), .second, .val (.long v62), .second, .val (.long v66), .second, .val (.long v73), .second, .val (.long v80), .second, .val (.long v87), .second, .val (.int v104), .val (.int v134), .val (.int v167), .val (.int v190), .val (.ref a195), .val (.ref a201), .val (.ref a6), .val (.long v339), .second, .val (.long v370), .second, .val (.long v403), .second, .val (.long v413), .second, .val (.long v424), .second, .val (.long v439), .second, .val (.long v339), .second, .val (.long (8 : Int64)), .second, .val (.long v555), .second, .val (.long v566), .second, .val (.long v403), .second, .val (.long (8 : Int64)), .second, .val (.long v489), .second, .val (.long v503), .second, .unset]) (pc' := 569) K at_567 rfl rfl ?_
    refine oW.lload (pc' := 571) K at_569 rfl rfl ?_
    refine oW.lstore (Ls' := #[.val (.int p0), .val (.int p1), .val (.int p2), .val (.int p3), .val (.int p4), .val (.long (1099511627776 : Int64)), .second, .val (.int (4 : Int32)), .val (.int v18), .val (.int v26), .val (.int v35), .val (.long v44), .second, .val (.long v53), .second, .val (.long v62), .second, .val (.long v66), .second, .val (.long v73), .second, .val (.long v80), .second, .val (.long v87), .second, .val (.int v104), .val (.int v134), .val (.int v167), .val (.int v190), .val (.ref a195), .val (.ref a201), .val (.ref a6), .val (.long v339), .second, .val (.long v370), .second, .val (.long v403), .second, .val (.long v413), .second, .val (.long v424), .second, .val (.long v439), .second, .val (.long v339), .second, .val (.long (8 : Int64)), .second, .val (.long v555), .second, .val (.long v566), .second, .val (.long v555), .second, .val (.long (8 : Int64)), .second, .val (.long v489), .second, .val (.long v503), .second, .unset]) (pc' := 573) K at_571 rfl rfl ?_
    refine oW.lload (pc' := 575) K at_573 rfl rfl ?_
    refine oW.lstore (Ls' := #[.val (.int p0), .val (.int p1), .val (.int p2), .val (.int p3), .val (.int p4), .val (.long (1099511627776 : Int64)), .second, .val (.int (4 : Int32)), .val (.int v18), .val (.int v26), .val (.int v35), .val (.long v44), .second, .val (.long v53), .second, .val (.long v62), .second, .val (.long v66), .second, .val (.long v73), .second, .val (.long v80), .second, .val (.long v87), .second, .val (.int v104), .val (.int v134), .val (.int v167), .val (.int v190), .val (.ref a195), .val (.ref a201), .val (.ref a6), .val (.long v339), .second, .val (.long v370), .second, .val (.long v403), .second, .val (.long v413), .second, .val (.long v424), .second, .val (.long v439), .second, .val (.long v339), .second, .val (.long (8 : Int64)), .second, .val (.long v555), .second, .val (.long v566), .second, .val (.long v555), .second, .val (.long v566), .second, .val (.long v489), .second, .val (.long v503), .second, .unset]) (pc' := 577) K at_575 rfl rfl ?_
    refine oW.goto (pc' := 689) K at_577 (by decide) (by decide) ?_
    refine oW.aload (pc' := 691) K at_689 rfl rfl rfl ?_
    refine oW.iconst (v := (0 : Int32)) (pc' := 692) K at_691 (by decide) rfl ?_
    refine oW.daload (i := 6) (k := 0) (pc' := 693) K at_692 rfl rfl (by decide) rfl rfl ?_
    refine oW.lload (pc' := 695) K at_693 rfl rfl ?_
    refine oW.lload (pc' := 697) K at_695 rfl rfl ?_
    refine oW.callS (argsL := [(.double v0), (.long v339), (.long (8 : Int64))]) (S := []) (rm := ({ frames := 0, cells := 0, slots := 0, locals := 0 } : Room)) (W := 0) (cells' := 7) (slots' := 28) (pc' := 700) K (hw _ (List.mem_of_getElem? (i := 17) rfl)) (hw _ (List.mem_of_getElem? (i := 18) rfl)) (hw _ (List.mem_of_getElem? (i := 19) rfl)) (hw _ (List.mem_of_getElem? (i := 20) rfl)) (by decide) (own_sameQ hw q0v (tv339) ((by decide : ((8 : Int64)).toInt = 8)) (by omega)) (lenOf pd_3 rfl) at_697 rfl rfl (Nat.le_of_eq rfl) (by decide) (by decide) (by decide) (by decide) rfl rfl rfl ?_
    rintro _ _ ⟨rfl, rfl⟩
    refine oW.istore (Ls' := #[.val (.int p0), .val (.int p1), .val (.int p2), .val (.int p3), .val (.int p4), .val (.long (1099511627776 : Int64)), .second, .val (.int (4 : Int32)), .val (.int v18), .val (.int v26), .val (.int v35), .val (.long v44), .second, .val (.long v53), .second, .val (.long v62), .second, .val (.long v66), .second, .val (.long v73), .second, .val (.long v80), .second, .val (.long v87), .second, .val (.int v104), .val (.int v134), .val (.int v167), .val (.int v190), .val (.ref a195), .val (.ref a201), .val (.ref a6), .val (.long v339), .second, .val (.long v370), .second, .val (.long v403), .second, .val (.long v413), .second, .val (.long v424), .second, .val (.long v439), .second, .val (.long v339), .second, .val (.long (8 : Int64)), .second, .val (.long v555), .second, .val (.long v566), .second, .val (.long v555), .second, .val (.long v566), .second, .val (.long v489), .second, .val (.long v503), .second, .val (.int (1 : Int32))]) (pc' := 702) K at_700 rfl rfl ?_
    refine oW.iload (pc' := 704) K at_702 rfl rfl ?_
    refine oW.iconst (v := (1 : Int32)) (pc' := 705) K at_704 (by decide) rfl ?_
    refine oW.icmp_le (pc' := 734) (pc3 := 708) K at_705 (by decide) (by decide) rfl (fun q => absurd q (by decide)) (fun _ => ?_)
    refine oW.iload (pc' := 710) K at_708 rfl rfl ?_
    refine oW.if_eq (pc' := 731) (pc3 := 713) K at_710 (by decide) (by decide) rfl (fun q => absurd q (by decide)) (fun _ => ?_)
    refine oW.aload (pc' := 715) K at_713 rfl rfl rfl ?_
    refine oW.iconst (v := (1 : Int32)) (pc' := 716) K at_715 (by decide) rfl ?_
    refine oW.daload (i := 6) (k := 1) (pc' := 717) K at_716 rfl rfl (by decide) rfl rfl ?_
    refine oW.lload (pc' := 719) K at_717 rfl rfl ?_
    refine oW.lload (pc' := 721) K at_719 rfl rfl ?_
    refine oW.callS (argsL := [(.double v1), (.long v555), (.long v566)]) (S := []) (rm := ({ frames := 0, cells := 0, slots := 0, locals := 0 } : Room)) (W := 0) (cells' := 7) (slots' := 28) (pc' := 724) K (hw _ (List.mem_of_getElem? (i := 17) rfl)) (hw _ (List.mem_of_getElem? (i := 18) rfl)) (hw _ (List.mem_of_getElem? (i := 19) rfl)) (hw _ (List.mem_of_getElem? (i := 20) rfl)) (by decide) (own_sameD hw q1v (by have := (tv555 : v555.toInt = _); omega) (by have := (tv566 : v566.toInt = _); omega) (by omega) (by omega)) (lenOf pd_3 rfl) at_721 rfl rfl (Nat.le_of_eq rfl) (by decide) (by decide) (by decide) (by decide) rfl rfl rfl ?_
    rintro _ _ ⟨rfl, rfl⟩
    refine oW.if_eq (pc' := 731) (pc3 := 727) K at_724 (by decide) (by decide) rfl (fun q => absurd q (by decide)) (fun _ => ?_)
    refine oW.iconst (v := (1 : Int32)) (pc' := 728) K at_727 (by decide) rfl ?_
    refine oW.goto (pc' := 732) K at_728 (by decide) (by decide) ?_
    refine oW.istore (Ls' := #[.val (.int p0), .val (.int p1), .val (.int p2), .val (.int p3), .val (.int p4), .val (.long (1099511627776 : Int64)), .second, .val (.int (4 : Int32)), .val (.int v18), .val (.int v26), .val (.int v35), .val (.long v44), .second, .val (.long v53), .second, .val (.long v62), .second, .val (.long v66), .second, .val (.long v73), .second, .val (.long v80), .second, .val (.long v87), .second, .val (.int v104), .val (.int v134), .val (.int v167), .val (.int v190), .val (.ref a195), .val (.ref a201), .val (.ref a6), .val (.long v339), .second, .val (.long v370), .second, .val (.long v403), .second, .val (.long v413), .second, .val (.long v424), .second, .val (.long v439), .second, .val (.long v339), .second, .val (.long (8 : Int64)), .second, .val (.long v555), .second, .val (.long v566), .second, .val (.long v555), .second, .val (.long v566), .second, .val (.long v489), .second, .val (.long v503), .second, .val (.int (1 : Int32))]) (pc' := 734) K at_732 rfl rfl ?_
    refine oW.iload (pc' := 736) K at_734 rfl rfl ?_
    refine oW.iconst (v := (2 : Int32)) (pc' := 737) K at_736 (by decide) rfl ?_
    refine oW.icmp_le (pc' := 766) (pc3 := 740) K at_737 (by decide) (by decide) rfl (fun q => absurd q (by decide)) (fun _ => ?_)
    refine oW.iload (pc' := 742) K at_740 rfl rfl ?_
    refine oW.if_eq (pc' := 763) (pc3 := 745) K at_742 (by decide) (by decide) rfl (fun q => absurd q (by decide)) (fun _ => ?_)
    refine oW.aload (pc' := 747) K at_745 rfl rfl rfl ?_
    refine oW.iconst (v := (2 : Int32)) (pc' := 748) K at_747 (by decide) rfl ?_
    refine oW.daload (i := 6) (k := 2) (pc' := 749) K at_748 rfl rfl (by decide) rfl rfl ?_
    refine oW.lload (pc' := 751) K at_749 rfl rfl ?_
    refine oW.lload (pc' := 753) K at_751 rfl rfl ?_
    refine oW.callS (argsL := [(.double v1), (.long v555), (.long v566)]) (S := []) (rm := ({ frames := 0, cells := 0, slots := 0, locals := 0 } : Room)) (W := 0) (cells' := 7) (slots' := 28) (pc' := 756) K (hw _ (List.mem_of_getElem? (i := 17) rfl)) (hw _ (List.mem_of_getElem? (i := 18) rfl)) (hw _ (List.mem_of_getElem? (i := 19) rfl)) (hw _ (List.mem_of_getElem? (i := 20) rfl)) (by decide) (own_sameD hw q1v (by have := (tv555 : v555.toInt = _); omega) (by have := (tv566 : v566.toInt = _); omega) (by omega) (by omega)) (lenOf pd_3 rfl) at_753 rfl rfl (Nat.le_of_eq rfl) (by decide) (by decide) (by decide) (by decide) rfl rfl rfl ?_
    rintro _ _ ⟨rfl, rfl⟩
    refine oW.if_eq (pc' := 763) (pc3 := 759) K at_756 (by decide) (by decide) rfl (fun q => absurd q (by decide)) (fun _ => ?_)
    refine oW.iconst (v := (1 : Int32)) (pc' := 760) K at_759 (by decide) rfl ?_
    refine oW.goto (pc' := 764) K at_760 (by decide) (by decide) ?_
    refine oW.istore (Ls' := #[.val (.int p0), .val (.int p1), .val (.int p2), .val (.int p3), .val (.int p4), .val (.long (1099511627776 : Int64)), .second, .val (.int (4 : Int32)), .val (.int v18), .val (.int v26), .val (.int v35), .val (.long v44), .second, .val (.long v53), .second, .val (.long v62), .second, .val (.long v66), .second, .val (.long v73), .second, .val (.long v80), .second, .val (.long v87), .second, .val (.int v104), .val (.int v134), .val (.int v167), .val (.int v190), .val (.ref a195), .val (.ref a201), .val (.ref a6), .val (.long v339), .second, .val (.long v370), .second, .val (.long v403), .second, .val (.long v413), .second, .val (.long v424), .second, .val (.long v439), .second, .val (.long v339), .second, .val (.long (8 : Int64)), .second, .val (.long v555), .second, .val (.long v566), .second, .val (.long v555), .second, .val (.long v566), .second, .val (.long v489), .second, .val (.long v503), .second, .val (.int (1 : Int32))]) (pc' := 766) K at_764 rfl rfl ?_
    refine oW.iload (pc' := 768) K at_766 rfl rfl ?_
    refine oW.iconst (v := (3 : Int32)) (pc' := 769) K at_768 (by decide) rfl ?_
    refine oW.icmp_le (pc' := 795) (pc3 := 772) K at_769 (by decide) (by decide) rfl (fun q => absurd q (by decide)) (fun _ => ?_)
    refine oW.iload (pc' := 774) K at_772 rfl rfl ?_
    refine oW.if_eq (pc' := 792) (pc3 := 777) K at_774 (by decide) (by decide) rfl (fun q => absurd q (by decide)) (fun _ => ?_)
    refine oW.aload (pc' := 779) K at_777 rfl rfl rfl ?_
    refine oW.iconst (v := (3 : Int32)) (pc' := 780) K at_779 (by decide) rfl ?_
    refine oW.daload (i := 6) (k := 3) (pc' := 781) K at_780 rfl rfl (by decide) rfl rfl ?_
    refine oW.lload (pc' := 783) K at_781 rfl rfl ?_
    obtain ⟨v783, ev783⟩ : ∃ t_ : UInt64, t_ = FP.l2d v87 := ⟨_, rfl⟩
    have qv783 : oQ (u3) 0 v783 := oQ.int (hu3 ▸ oL2D ev783 (by have h1 := hu3; omega))
    refine oW.l2d (pc' := 784) K at_783 ev783 rfl ?_
    obtain ⟨v784, ev784⟩ : ∃ t_ : Int32, t_ = cmpValue (FP.dcmp v3 v783) .l := ⟨_, rfl⟩
    refine oW.dcmp (pc' := 785) K at_784 ev784 rfl ?_
    refine oW.if_ne (pc' := 792) (pc3 := 788) K at_785 (by decide) (by decide) rfl (fun q => absurd ((q3v.cmp (qv783.up 3 rfl (by decide) hRl) ev784).2.1.mpr rfl) q) (fun c785 => ?_)
    refine oW.iconst (v := (1 : Int32)) (pc' := 789) K at_788 (by decide) rfl ?_
    refine oW.goto (pc' := 793) K at_789 (by decide) (by decide) ?_
    refine oW.istore (Ls' := #[.val (.int p0), .val (.int p1), .val (.int p2), .val (.int p3), .val (.int p4), .val (.long (1099511627776 : Int64)), .second, .val (.int (4 : Int32)), .val (.int v18), .val (.int v26), .val (.int v35), .val (.long v44), .second, .val (.long v53), .second, .val (.long v62), .second, .val (.long v66), .second, .val (.long v73), .second, .val (.long v80), .second, .val (.long v87), .second, .val (.int v104), .val (.int v134), .val (.int v167), .val (.int v190), .val (.ref a195), .val (.ref a201), .val (.ref a6), .val (.long v339), .second, .val (.long v370), .second, .val (.long v403), .second, .val (.long v413), .second, .val (.long v424), .second, .val (.long v439), .second, .val (.long v339), .second, .val (.long (8 : Int64)), .second, .val (.long v555), .second, .val (.long v566), .second, .val (.long v555), .second, .val (.long v566), .second, .val (.long v489), .second, .val (.long v503), .second, .val (.int (1 : Int32))]) (pc' := 795) K at_793 rfl rfl ?_
    refine oW.iload (pc' := 797) K at_795 rfl rfl ?_
    exact oW.retB K rfl at_797 (by decide) (by decide) ⟨_, rfl, rfl⟩
  · refine oW.lload (pc' := 508) K at_506 rfl rfl ?_
    refine oW.lload (pc' := 510) K at_508 rfl rfl ?_
    obtain ⟨v510, ev510⟩ : ∃ t_ : Int32, t_ = XT.cmpL v339 v370 := ⟨_, rfl⟩
    refine oW.lcmp (pc' := 511) K at_510 ev510 rfl ?_
    refine oW.if_gt (pc' := 607) (pc3 := 514) K at_511 (by decide) (by decide) rfl (fun q => absurd ((oLcmp ev510).2.2.mp q) (by have := (tv339 : v339.toInt = _); have := (tv370 : v370.toInt = _); omega)) (fun c511 => ?_)
    refine oW.lload (pc' := 516) K at_514 rfl rfl ?_
    refine oW.lload (pc' := 518) K at_516 rfl rfl ?_
    obtain ⟨v518, ev518⟩ : ∃ t_ : Int32, t_ = XT.cmpL v370 v403 := ⟨_, rfl⟩
    refine oW.lcmp (pc' := 519) K at_518 ev518 rfl ?_
    refine oW.if_le (pc' := 689) (pc3 := 522) K at_519 (by decide) (by decide) rfl (fun q => absurd q (by rw [(oLcmp ev518).2.2]; have := (tv370 : v370.toInt = _); have := (tv403 : v403.toInt = _); omega)) (fun c519 => ?_)
    refine oW.lload (pc' := 524) K at_522 rfl rfl ?_
    refine oW.lload (pc' := 526) K at_524 rfl rfl ?_
    refine oW.lload (pc' := 528) K at_526 rfl rfl ?_
    obtain ⟨v528, ev528⟩ : ∃ t_ : Int64, t_ = v424 + v439 := ⟨_, rfl⟩
    refine oW.ladd (pc' := 529) K at_528 ev528 rfl ?_
    have tv528 : v528.toInt = q1 + q2 := by have h1 := (tv424 : v424.toInt = _); have h2 := (tv439 : v439.toInt = _); have h := oLadd ev528 (by omega); omega
    obtain ⟨v529, ev529⟩ : ∃ t_ : Int64, t_ = v339 * v528 := ⟨_, rfl⟩
    refine oW.lmul (pc' := 530) K at_529 ev529 rfl ?_
    have tv529 : v529.toInt = R0 * (q1 + q2) := (oLmul ev529 (by rw [tv339, tv528]; omega)).trans (by rw [tv339, tv528])
    refine oW.lload (pc' := 532) K at_530 rfl rfl ?_
    refine oW.lload (pc' := 534) K at_532 rfl rfl ?_
    obtain ⟨v534, ev534⟩ : ∃ t_ : Int64, t_ = v424 * v370 := ⟨_, rfl⟩
    refine oW.lmul (pc' := 535) K at_534 ev534 rfl ?_
    have tv534 : v534.toInt = q1 * R1 := (oLmul ev534 (by rw [tv424, tv370]; omega)).trans (by rw [tv424, tv370])
    refine oW.lload (pc' := 537) K at_535 rfl rfl ?_
    refine oW.lload (pc' := 539) K at_537 rfl rfl ?_
    obtain ⟨v539, ev539⟩ : ∃ t_ : Int64, t_ = v439 * v403 := ⟨_, rfl⟩
    refine oW.lmul (pc' := 540) K at_539 ev539 rfl ?_
    have tv539 : v539.toInt = q2 * R2 := (oLmul ev539 (by rw [tv439, tv403]; omega)).trans (by rw [tv439, tv403])
    obtain ⟨v540, ev540⟩ : ∃ t_ : Int64, t_ = v534 + v539 := ⟨_, rfl⟩
    refine oW.ladd (pc' := 541) K at_540 ev540 rfl ?_
    have tv540 : v540.toInt = q1 * R1 + q2 * R2 := by have h1 := (tv534 : v534.toInt = _); have h2 := (tv539 : v539.toInt = _); have h := oLadd ev540 (by omega); omega
    obtain ⟨v541, ev541⟩ : ∃ t_ : Int32, t_ = XT.cmpL v529 v540 := ⟨_, rfl⟩
    refine oW.lcmp (pc' := 542) K at_541 ev541 rfl ?_
    refine oW.if_gt (pc' := 580) (pc3 := 545) K at_542 (by decide) (by decide) rfl (fun c542 => ?_) (fun q => absurd q (by rw [(oLcmp ev541).2.2]; have := (tv529 : v529.toInt = _); have := (tv540 : v540.toInt = _); omega))
    refine oW.lload (pc' := 582) K at_580 rfl rfl ?_
    refine oW.lstore (Ls' := #[.val (.int p0), .val (.int p1), .val (.int p2), .val (.int p3), .val (.int p4), .val (.long (1099511627776 : Int64)), .second, .val (.int (4 : Int32)), .val (.int v18), .val (.int v26), .val (.int v35), .val (.long v44), .second, .val (.long v53), .second, .val (.long v62), .second, .val (.long v66), .second, .val (.long v73), .second, .val (.long v80), .second, .val (.long v87), .second, .val (.int v104), .val (.int v134), .val (.int v167), .val (.int v190), .val (.ref a195), .val (.ref a201), .val (.ref a6), .val (.long v339), .second, .val (.long v370), .second, .val (.long v403), .second, .val (.long v413), .second, .val (.long v424), .second, .val (.long v439), .second, .val (.long v489), .second, .val (.long (8 : Int64)), .second, .val (.long v370), .second, .val (.long (8 : Int64)), .second, .val (.long v403), .second, .val (.long (8 : Int64)), .second, .val (.long v489), .second, .val (.long v503), .second, .unset]) (pc' := 584) K at_582 rfl rfl ?_
    refine oW.lload (pc' := 586) K at_584 rfl rfl ?_
    refine oW.lstore (Ls' := #[.val (.int p0), .val (.int p1), .val (.int p2), .val (.int p3), .val (.int p4), .val (.long (1099511627776 : Int64)), .second, .val (.int (4 : Int32)), .val (.int v18), .val (.int v26), .val (.int v35), .val (.long v44), .second, .val (.long v53), .second, .val (.long v62), .second, .val (.long v66), .second, .val (.long v73), .second, .val (.long v80), .second, .val (.long v87), .second, .val (.int v104), .val (.int v134), .val (.int v167), .val (.int v190), .val (.ref a195), .val (.ref a201), .val (.ref a6), .val (.long v339), .second, .val (.long v370), .second, .val (.long v403), .second, .val (.long v413), .second, .val (.long v424), .second, .val (.long v439), .second, .val (.long v489), .second, .val (.long (8 : Int64)), .second, .val (.long v489), .second, .val (.long (8 : Int64)), .second, .val (.long v403), .second, .val (.long (8 : Int64)), .second, .val (.long v489), .second, .val (.long v503), .second, .unset]) (pc' := 588) K at_586 rfl rfl ?_
    refine oW.lload (pc' := 590) K at_588 rfl rfl ?_
    refine oW.lstore (Ls' := #[.val (.int p0), .val (.int p1), .val (.int p2), .val (.int p3), .val (.int p4), .val (.long (1099511627776 : Int64)), .second, .val (.int (4 : Int32)), .val (.int v18), .val (.int v26), .val (.int v35), .val (.long v44), .second, .val (.long v53), .second, .val (.long v62), .second, .val (.long v66), .second, .val (.long v73), .second, .val (.long v80), .second, .val (.long v87), .second, .val (.int v104), .val (.int v134), .val (.int v167), .val (.int v190), .val (.ref a195), .val (.ref a201), .val (.ref a6), .val (.long v339), .second, .val (.long v370), .second, .val (.long v403), .second, .val (.long v413), .second, .val (.long v424), .second, .val (.long v439), .second, .val (.long v489), .second, .val (.long (8 : Int64)), .second, .val (.long v489), .second, .val (.long (8 : Int64)), .second, .val (.long v489), .second, .val (.long (8 : Int64)), .second, .val (.long v489), .second, .val (.long v503), .second, .unset]) (pc' := 592) K at_590 rfl rfl ?_
    refine oW.lload (pc' := 594) K at_592 rfl rfl ?_
    refine oW.lstore (Ls' := #[.val (.int p0), .val (.int p1), .val (.int p2), .val (.int p3), .val (.int p4), .val (.long (1099511627776 : Int64)), .second, .val (.int (4 : Int32)), .val (.int v18), .val (.int v26), .val (.int v35), .val (.long v44), .second, .val (.long v53), .second, .val (.long v62), .second, .val (.long v66), .second, .val (.long v73), .second, .val (.long v80), .second, .val (.long v87), .second, .val (.int v104), .val (.int v134), .val (.int v167), .val (.int v190), .val (.ref a195), .val (.ref a201), .val (.ref a6), .val (.long v339), .second, .val (.long v370), .second, .val (.long v403), .second, .val (.long v413), .second, .val (.long v424), .second, .val (.long v439), .second, .val (.long v489), .second, .val (.long v503), .second, .val (.long v489), .second, .val (.long (8 : Int64)), .second, .val (.long v489), .second, .val (.long (8 : Int64)), .second, .val (.long v489), .second, .val (.long v503), .second, .unset]) (pc' := 596) K at_594 rfl rfl ?_
    refine oW.lload (pc' := 598) K at_596 rfl rfl ?_
    refine oW.lstore (Ls' := #[.val (.int p0), .val (.int p1), .val (.int p2), .val (.int p3), .val (.int p4), .val (.long (1099511627776 : Int64)), .second, .val (.int (4 : Int32)), .val (.int v18), .val (.int v26), .val (.int v35), .val (.long v44), .second, .val (.long v53), .second, .val (.long v62), .second, .val (.long v66), .second, .val (.long v73), .second, .val (.long v80), .second, .val (.long v87), .second, .val (.int v104), .val (.int v134), .val (.int v167), .val (.int v190), .val (.ref a195), .val (.ref a201), .val (.ref a6), .val (.long v339), .second, .val (.long v370), .second, .val (.long v403), .second, .val (.long v413), .second, .val (.long v424), .second, .val (.long v439), .second, .val (.long v489), .second, .val (.long v503), .second, .val (.long v489), .second, .val (.long v503), .second, .val (.long v489), .second, .val (.long (8 : Int64)), .second, .val (.long v489), .second, .val (.long v503), .second, .unset]) (pc' := 600) K at_598 rfl rfl ?_
    refine oW.lload (pc' := 602) K at_600 rfl rfl ?_
    refine oW.lstore (Ls' := #[.val (.int p0), .val (.int p1), .val (.int p2), .val (.int p3), .val (.int p4), .val (.long (1099511627776 : Int64)), .second, .val (.int (4 : Int32)), .val (.int v18), .val (.int v26), .val (.int v35), .val (.long v44), .second, .val (.long v53), .second, .val (.long v62), .second, .val (.long v66), .second, .val (.long v73), .second, .val (.long v80), .second, .val (.long v87), .second, .val (.int v104), .val (.int v134), .val (.int v167), .val (.int v190), .val (.ref a195), .val (.ref a201), .val (.ref a6), .val (.long v339), .second, .val (.long v370), .second, .val (.long v403), .second, .val (.long v413), .second, .val (.long v424), .second, .val (.long v439), .second, .val (.long v489), .second, .val (.long v503), .second, .val (.long v489), .second, .val (.long v503), .second, .val (.long v489), .second, .val (.long v503), .second, .val (.long v489), .second, .val (.long v503), .second, .unset]) (pc' := 604) K at_602 rfl rfl ?_
    refine oW.goto (pc' := 689) K at_604 (by decide) (by decide) ?_
    refine oW.aload (pc' := 691) K at_689 rfl rfl rfl ?_
    refine oW.iconst (v := (0 : Int32)) (pc' := 692) K at_691 (by decide) rfl ?_
    refine oW.daload (i := 6) (k := 0) (pc' := 693) K at_692 rfl rfl (by decide) rfl rfl ?_
    refine oW.lload (pc' := 695) K at_693 rfl rfl ?_
    refine oW.lload (pc' := 697) K at_695 rfl rfl ?_
    refine oW.callS (argsL := [(.double v0), (.long v489), (.long v503)]) (S := []) (rm := ({ frames := 0, cells := 0, slots := 0, locals := 0 } : Room)) (W := 0) (cells' := 7) (slots' := 28) (pc' := 700) K (hw _ (List.mem_of_getElem? (i := 17) rfl)) (hw _ (List.mem_of_getElem? (i := 18) rfl)) (hw _ (List.mem_of_getElem? (i := 19) rfl)) (hw _ (List.mem_of_getElem? (i := 20) rfl)) (by decide) (own_sameD hw q0v (by have := (tv489 : v489.toInt = _); omega) (by have := (tv503 : v503.toInt = _); omega) (by omega) (by omega)) (lenOf pd_3 rfl) at_697 rfl rfl (Nat.le_of_eq rfl) (by decide) (by decide) (by decide) (by decide) rfl rfl rfl ?_
    rintro _ _ ⟨rfl, rfl⟩
    refine oW.istore (Ls' := #[.val (.int p0), .val (.int p1), .val (.int p2), .val (.int p3), .val (.int p4), .val (.long (1099511627776 : Int64)), .second, .val (.int (4 : Int32)), .val (.int v18), .val (.int v26), .val (.int v35), .val (.long v44), .second, .val (.long v53), .second, .val (.long v62), .second, .val (.long v66), .second, .val (.long v73), .second, .val (.long v80), .second, .val (.long v87), .second, .val (.int v104), .val (.int v134), .val (.int v167), .val (.int v190), .val (.ref a195), .val (.ref a201), .val (.ref a6), .val (.long v339), .second, .val (.long v370), .second, .val (.long v403), .second, .val (.long v413), .second, .val (.long v424), .second, .val (.long v439), .second, .val (.long v489), .second, .val (.long v503), .second, .val (.long v489), .second, .val (.long v503), .second, .val (.long v489), .second, .val (.long v503), .second, .val (.long v489), .second, .val (.long v503), .second, .val (.int (1 : Int32))]) (pc' := 702) K at_700 rfl rfl ?_
    refine oW.iload (pc' := 704) K at_702 rfl rfl ?_
    refine oW.iconst (v := (1 : Int32)) (pc' := 705) K at_704 (by decide) rfl ?_
    refine oW.icmp_le (pc' := 734) (pc3 := 708) K at_705 (by decide) (by decide) rfl (fun q => absurd q (by decide)) (fun _ => ?_)
    refine oW.iload (pc' := 710) K at_708 rfl rfl ?_
    refine oW.if_eq (pc' := 731) (pc3 := 713) K at_710 (by decide) (by decide) rfl (fun q => absurd q (by decide)) (fun _ => ?_)
    refine oW.aload (pc' := 715) K at_713 rfl rfl rfl ?_
    refine oW.iconst (v := (1 : Int32)) (pc' := 716) K at_715 (by decide) rfl ?_
    refine oW.daload (i := 6) (k := 1) (pc' := 717) K at_716 rfl rfl (by decide) rfl rfl ?_
    refine oW.lload (pc' := 719) K at_717 rfl rfl ?_
    refine oW.lload (pc' := 721) K at_719 rfl rfl ?_
    refine oW.callS (argsL := [(.double v0), (.long v489), (.long v503)]) (S := []) (rm := ({ frames := 0, cells := 0, slots := 0, locals := 0 } : Room)) (W := 0) (cells' := 7) (slots' := 28) (pc' := 724) K (hw _ (List.mem_of_getElem? (i := 17) rfl)) (hw _ (List.mem_of_getElem? (i := 18) rfl)) (hw _ (List.mem_of_getElem? (i := 19) rfl)) (hw _ (List.mem_of_getElem? (i := 20) rfl)) (by decide) (own_sameD hw q0v (by have := (tv489 : v489.toInt = _); omega) (by have := (tv503 : v503.toInt = _); omega) (by omega) (by omega)) (lenOf pd_3 rfl) at_721 rfl rfl (Nat.le_of_eq rfl) (by decide) (by decide) (by decide) (by decide) rfl rfl rfl ?_
    rintro _ _ ⟨rfl, rfl⟩
    refine oW.if_eq (pc' := 731) (pc3 := 727) K at_724 (by decide) (by decide) rfl (fun q => absurd q (by decide)) (fun _ => ?_)
    refine oW.iconst (v := (1 : Int32)) (pc' := 728) K at_727 (by decide) rfl ?_
    refine oW.goto (pc' := 732) K at_728 (by decide) (by decide) ?_
    refine oW.istore (Ls' := #[.val (.int p0), .val (.int p1), .val (.int p2), .val (.int p3), .val (.int p4), .val (.long (1099511627776 : Int64)), .second, .val (.int (4 : Int32)), .val (.int v18), .val (.int v26), .val (.int v35), .val (.long v44), .second, .val (.long v53), .second, .val (.long v62), .second, .val (.long v66), .second, .val (.long v73), .second, .val (.long v80), .second, .val (.long v87), .second, .val (.int v104), .val (.int v134), .val (.int v167), .val (.int v190), .val (.ref a195), .val (.ref a201), .val (.ref a6), .val (.long v339), .second, .val (.long v370), .second, .val (.long v403), .second, .val (.long v413), .second, .val (.long v424), .second, .val (.long v439), .second, .val (.long v489), .second, .val (.long v503), .second, .val (.long v489), .second, .val (.long v503), .second, .val (.long v489), .second, .val (.long v503), .second, .val (.long v489), .second, .val (.long v503), .second, .val (.int (1 : Int32))]) (pc' := 734) K at_732 rfl rfl ?_
    refine oW.iload (pc' := 736) K at_734 rfl rfl ?_
    refine oW.iconst (v := (2 : Int32)) (pc' := 737) K at_736 (by decide) rfl ?_
    refine oW.icmp_le (pc' := 766) (pc3 := 740) K at_737 (by decide) (by decide) rfl (fun q => absurd q (by decide)) (fun _ => ?_)
    refine oW.iload (pc' := 742) K at_740 rfl rfl ?_
    refine oW.if_eq (pc' := 763) (pc3 := 745) K at_742 (by decide) (by decide) rfl (fun q => absurd q (by decide)) (fun _ => ?_)
    refine oW.aload (pc' := 747) K at_745 rfl rfl rfl ?_
    refine oW.iconst (v := (2 : Int32)) (pc' := 748) K at_747 (by decide) rfl ?_
    refine oW.daload (i := 6) (k := 2) (pc' := 749) K at_748 rfl rfl (by decide) rfl rfl ?_
    refine oW.lload (pc' := 751) K at_749 rfl rfl ?_
    refine oW.lload (pc' := 753) K at_751 rfl rfl ?_
    refine oW.callS (argsL := [(.double v0), (.long v489), (.long v503)]) (S := []) (rm := ({ frames := 0, cells := 0, slots := 0, locals := 0 } : Room)) (W := 0) (cells' := 7) (slots' := 28) (pc' := 756) K (hw _ (List.mem_of_getElem? (i := 17) rfl)) (hw _ (List.mem_of_getElem? (i := 18) rfl)) (hw _ (List.mem_of_getElem? (i := 19) rfl)) (hw _ (List.mem_of_getElem? (i := 20) rfl)) (by decide) (own_sameD hw q0v (by have := (tv489 : v489.toInt = _); omega) (by have := (tv503 : v503.toInt = _); omega) (by omega) (by omega)) (lenOf pd_3 rfl) at_753 rfl rfl (Nat.le_of_eq rfl) (by decide) (by decide) (by decide) (by decide) rfl rfl rfl ?_
    rintro _ _ ⟨rfl, rfl⟩
    refine oW.if_eq (pc' := 763) (pc3 := 759) K at_756 (by decide) (by decide) rfl (fun q => absurd q (by decide)) (fun _ => ?_)
    refine oW.iconst (v := (1 : Int32)) (pc' := 760) K at_759 (by decide) rfl ?_
    refine oW.goto (pc' := 764) K at_760 (by decide) (by decide) ?_
    refine oW.istore (Ls' := #[.val (.int p0), .val (.int p1), .val (.int p2), .val (.int p3), .val (.int p4), .val (.long (1099511627776 : Int64)), .second, .val (.int (4 : Int32)), .val (.int v18), .val (.int v26), .val (.int v35), .val (.long v44), .second, .val (.long v53), .second, .val (.long v62), .second, .val (.long v66), .second, .val (.long v73), .second, .val (.long v80), .second, .val (.long v87), .second, .val (.int v104), .val (.int v134), .val (.int v167), .val (.int v190), .val (.ref a195), .val (.ref a201), .val (.ref a6), .val (.long v339), .second, .val (.long v370), .second, .val (.long v403), .second, .val (.long v413), .second, .val (.long v424), .second, .val (.long v439), .second, .val (.long v489), .second, .val (.long v503), .second, .val (.long v489), .second, .val (.long v503), .second, .val (.long v489), .second, .val (.long v503), .second, .val (.long v489), .second, .val (.long v503), .second, .val (.int (1 : Int32))]) (pc' := 766) K at_764 rfl rfl ?_
    refine oW.iload (pc' := 768) K at_766 rfl rfl ?_
    refine oW.iconst (v := (3 : Int32)) (pc' := 769) K at_768 (by decide) rfl ?_
    refine oW.icmp_le (pc' := 795) (pc3 := 772) K at_769 (by decide) (by decide) rfl (fun q => absurd q (by decide)) (fun _ => ?_)
    refine oW.iload (pc' := 774) K at_772 rfl rfl ?_
    refine oW.if_eq (pc' := 792) (pc3 := 777) K at_774 (by decide) (by decide) rfl (fun q => absurd q (by decide)) (fun _ => ?_)
    refine oW.aload (pc' := 779) K at_777 rfl rfl rfl ?_
    refine oW.iconst (v := (3 : Int32)) (pc' := 780) K at_779 (by decide) rfl ?_
    refine oW.daload (i := 6) (k := 3) (pc' := 781) K at_780 rfl rfl (by decide) rfl rfl ?_
    refine oW.lload (pc' := 783) K at_781 rfl rfl ?_
    obtain ⟨v783, ev783⟩ : ∃ t_ : UInt64, t_ = FP.l2d v87 := ⟨_, rfl⟩
    have qv783 : oQ (u3) 0 v783 := oQ.int (hu3 ▸ oL2D ev783 (by have h1 := hu3; omega))
    refine oW.l2d (pc' := 784) K at_783 ev783 rfl ?_
    obtain ⟨v784, ev784⟩ : ∃ t_ : Int32, t_ = cmpValue (FP.dcmp v3 v783) .l := ⟨_, rfl⟩
    refine oW.dcmp (pc' := 785) K at_784 ev784 rfl ?_
    refine oW.if_ne (pc' := 792) (pc3 := 788) K at_785 (by decide) (by decide) rfl (fun q => absurd ((q3v.cmp (qv783.up 3 rfl (by decide) hRl) ev784).2.1.mpr rfl) q) (fun c785 => ?_)
    refine oW.iconst (v := (1 : Int32)) (pc' := 789) K at_788 (by decide) rfl ?_
    refine oW.goto (pc' := 793) K at_789 (by decide) (by decide) ?_
    refine oW.istore (Ls' := #[.val (.int p0), .val (.int p1), .val (.int p2), .val (.int p3), .val (.int p4), .val (.long (1099511627776 : Int64)), .second, .val (.int (4 : Int32)), .val (.int v18), .val (.int v26), .val (.int v35), .val (.long v44), .second, .val (.long v53), .second, .val (.long v62), .second, .val (.long v66), .second, .val (.long v73), .second, .val (.long v80), .second, .val (.long v87), .second, .val (.int v104), .val (.int v134), .val (.int v167), .val (.int v190), .val (.ref a195), .val (.ref a201), .val (.ref a6), .val (.long v339), .second, .val (.long v370), .second, .val (.long v403), .second, .val (.long v413), .second, .val (.long v424), .second, .val (.long v439), .second, .val (.long v489), .second, .val (.long v503), .second, .val (.long v489), .second, .val (.long v503), .second, .val (.long v489), .second, .val (.long v503), .second, .val (.long v489), .second, .val (.long v503), .second, .val (.int (1 : Int32))]) (pc' := 795) K at_793 rfl rfl ?_
    refine oW.iload (pc' := 797) K at_795 rfl rfl ?_
    exact oW.retB K rfl at_797 (by decide) (by decide) ⟨_, rfl, rfl⟩
  · refine oW.lload (pc' := 508) K at_506 rfl rfl ?_
    refine oW.lload (pc' := 510) K at_508 rfl rfl ?_
    obtain ⟨v510, ev510⟩ : ∃ t_ : Int32, t_ = XT.cmpL v339 v370 := ⟨_, rfl⟩
    refine oW.lcmp (pc' := 511) K at_510 ev510 rfl ?_
    refine oW.if_gt (pc' := 607) (pc3 := 514) K at_511 (by decide) (by decide) rfl (fun c511 => ?_) (fun q => absurd q (by rw [(oLcmp ev510).2.2]; have := (tv339 : v339.toInt = _); have := (tv370 : v370.toInt = _); omega))
    refine oW.lload (pc' := 609) K at_607 rfl rfl ?_
    refine oW.lload (pc' := 611) K at_609 rfl rfl ?_
    obtain ⟨v611, ev611⟩ : ∃ t_ : Int64, t_ = v413 * v339 := ⟨_, rfl⟩
    refine oW.lmul (pc' := 612) K at_611 ev611 rfl ?_
    have tv611 : v611.toInt = q0 * R0 := (oLmul ev611 (by rw [tv413, tv339]; omega)).trans (by rw [tv413, tv339])
    refine oW.lload (pc' := 614) K at_612 rfl rfl ?_
    refine oW.lload (pc' := 616) K at_614 rfl rfl ?_
    obtain ⟨v616, ev616⟩ : ∃ t_ : Int64, t_ = v424 * v370 := ⟨_, rfl⟩
    refine oW.lmul (pc' := 617) K at_616 ev616 rfl ?_
    have tv616 : v616.toInt = q1 * R1 := (oLmul ev616 (by rw [tv424, tv370]; omega)).trans (by rw [tv424, tv370])
    obtain ⟨v617, ev617⟩ : ∃ t_ : Int64, t_ = v611 + v616 := ⟨_, rfl⟩
    refine oW.ladd (pc' := 618) K at_617 ev617 rfl ?_
    have tv617 : v617.toInt = q0 * R0 + q1 * R1 := by have h1 := (tv611 : v611.toInt = _); have h2 := (tv616 : v616.toInt = _); have h := oLadd ev617 (by omega); omega
    refine oW.lload (pc' := 620) K at_618 rfl rfl ?_
    refine oW.lload (pc' := 622) K at_620 rfl rfl ?_
    refine oW.lload (pc' := 624) K at_622 rfl rfl ?_
    obtain ⟨v624, ev624⟩ : ∃ t_ : Int64, t_ = v413 + v424 := ⟨_, rfl⟩
    refine oW.ladd (pc' := 625) K at_624 ev624 rfl ?_
    have tv624 : v624.toInt = q0 + q1 := by have h1 := (tv413 : v413.toInt = _); have h2 := (tv424 : v424.toInt = _); have h := oLadd ev624 (by omega); omega
    obtain ⟨v625, ev625⟩ : ∃ t_ : Int64, t_ = v403 * v624 := ⟨_, rfl⟩
    refine oW.lmul (pc' := 626) K at_625 ev625 rfl ?_
    have tv625 : v625.toInt = R2 * (q0 + q1) := (oLmul ev625 (by rw [tv403, tv624]; omega)).trans (by rw [tv403, tv624])
    obtain ⟨v626, ev626⟩ : ∃ t_ : Int32, t_ = XT.cmpL v617 v625 := ⟨_, rfl⟩
    refine oW.lcmp (pc' := 627) K at_626 ev626 rfl ?_
    refine oW.if_gt (pc' := 665) (pc3 := 630) K at_627 (by decide) (by decide) rfl (fun q => absurd ((oLcmp ev626).2.2.mp q) (by have := (tv617 : v617.toInt = _); have := (tv625 : v625.toInt = _); omega)) (fun c627 => ?_)
    refine oW.lload (pc' := 632) K at_630 rfl rfl ?_
    refine oW.lload (pc' := 634) K at_632 rfl rfl ?_
    obtain ⟨v634, ev634⟩ : ∃ t_ : Int64, t_ = v413 * v339 := ⟨_, rfl⟩
    refine oW.lmul (pc' := 635) K at_634 ev634 rfl ?_
    have tv634 : v634.toInt = q0 * R0 := (oLmul ev634 (by rw [tv413, tv339]; omega)).trans (by rw [tv413, tv339])
    refine oW.lload (pc' := 637) K at_635 rfl rfl ?_
    refine oW.lload (pc' := 639) K at_637 rfl rfl ?_
    obtain ⟨v639, ev639⟩ : ∃ t_ : Int64, t_ = v424 * v370 := ⟨_, rfl⟩
    refine oW.lmul (pc' := 640) K at_639 ev639 rfl ?_
    have tv639 : v639.toInt = q1 * R1 := (oLmul ev639 (by rw [tv424, tv370]; omega)).trans (by rw [tv424, tv370])
    obtain ⟨v640, ev640⟩ : ∃ t_ : Int64, t_ = v634 + v639 := ⟨_, rfl⟩
    refine oW.ladd (pc' := 641) K at_640 ev640 rfl ?_
    have tv640 : v640.toInt = q0 * R0 + q1 * R1 := by have h1 := (tv634 : v634.toInt = _); have h2 := (tv639 : v639.toInt = _); have h := oLadd ev640 (by omega); omega
    refine oW.lstore (Ls' := #[.val (.int p0), .val (.int p1), .val (.int p2), .val (.int p3), .val (.int p4), .val (.long (1099511627776 : Int64)), .second, .val (.int (4 : Int32)), .val (.int v18), .val (.int v26), .val (.int v35), .val (.long v44), .second, .val (.long v53), .second, .val (.long v62), .second, .val (.long v66), .second, .val (.long v73), .second, .val (.long v80), .second, .val (.long v87), .second, .val (.int v104), .val (.int v134), .val (.int v167), .val (.int v190), .val (.ref a195), .val (.ref a201), .val (.ref a6), .val (.long v339), .second, .val (.long v370), .second, .val (.long v403), .second, .val (.long v413), .second, .val (.long v424), .second, .val (.long v439), .second, .val (.long v640), .second, .val (.long (8 : Int64)), .second, .val (.long v370), .second, .val (.long (8 : Int64)), .second, .val (.long v403), .second, .val (.long (8 : Int64)), .second, .val (.long v489), .second, .val (.long v503), .second, .unset]) (pc' := 643) K at_641 rfl rfl ?_
    refine oW.ldc2L (pc' := 646) K (hw _ (List.mem_of_getElem? (i := 16) rfl)) at_643 rfl ?_
    refine oW.lload (pc' := 648) K at_646 rfl rfl ?_
    refine oW.lload (pc' := 650) K at_648 rfl rfl ?_
    obtain ⟨v650, ev650⟩ : ∃ t_ : Int64, t_ = v413 + v424 := ⟨_, rfl⟩
    refine oW.ladd (pc' := 651) K at_650 ev650 rfl ?_
    have tv650 : v650.toInt = q0 + q1 := by have h1 := (tv413 : v413.toInt = _); have h2 := (tv424 : v424.toInt = _); have h := oLadd ev650 (by omega); omega
    obtain ⟨v651, ev651⟩ : ∃ t_ : Int64, t_ = (8 : Int64) * v650 := ⟨_, rfl⟩
    refine oW.lmul (pc' := 652) K at_651 ev651 rfl ?_
    have tv651 : v651.toInt = 8 * (q0 + q1) := (oLmul ev651 (by rw [(by decide : ((8 : Int64)).toInt = 8), tv650]; omega)).trans (by rw [(by decide : ((8 : Int64)).toInt = 8), tv650])
    refine oW.lstore (Ls' := #[.val (.int p0), .val (.int p1), .val (.int p2), .val (.int p3), .val (.int p4), .val (.long (1099511627776 : Int64)), .second, .val (.int (4 : Int32)), .val (.int v18), .val (.int v26), .val (.int v35), .val (.long v44), .second, .val (.long v53), .second, .val (.long v62), .second, .val (.long v66), .second, .val (.long v73), .second, .val (.long v80), .second, .val (.long v87), .second, .val (.int v104), .val (.int v134), .val (.int v167), .val (.int v190), .val (.ref a195), .val (.ref a201), .val (.ref a6), .val (.long v339), .second, .val (.long v370), .second, .val (.long v403), .second, .val (.long v413), .second, .val (.long v424), .second, .val (.long v439), .second, .val (.long v640), .second, .val (.long v651), .second, .val (.long v370), .second, .val (.long (8 : Int64)), .second, .val (.long v403), .second, .val (.long (8 : Int64)), .second, .val (.long v489), .second, .val (.long v503), .second, .unset]) (pc' := 654) K at_652 rfl rfl ?_
    refine oW.lload (pc' := 656) K at_654 rfl rfl ?_
    refine oW.lstore (Ls' := #[.val (.int p0), .val (.int p1), .val (.int p2), .val (.int p3), .val (.int p4), .val (.long (1099511627776 : Int64)), .second, .val (.int (4 : Int32)), .val (.int v18), .val (.int v26), .val (.int v35), .val (.long v44), .second, .val (.long v53), .second, .val (.long v62), .second, .val (.long v66), .second, .val (.long v73), .second, .val (.long v80), .second, .val (.long v87), .second, .val (.int v104), .val (.int v134), .val (.int v167), .val (.int v190), .val (.ref a195), .val (.ref a201), .val (.ref a6), .val (.long v339), .second, .val (.long v370), .second, .val (.long v403), .second, .val (.long v413), .second, .val (.long v424), .second, .val (.long v439), .second, .val (.long v640), .second, .val (.long v651), .second, .val (.long v640), .second, .val (.long (8 : Int64)), .second, .val (.long v403), .second, .val (.long (8 : Int64)), .second, .val (.long v489), .second, .val (.long v503), .second, .unset]) (pc' := 658) K at_656 rfl rfl ?_
    refine oW.lload (pc' := 660) K at_658 rfl rfl ?_
    refine oW.lstore (Ls' := #[.val (.int p0), .val (.int p1), .val (.int p2), .val (.int p3), .val (.int p4), .val (.long (1099511627776 : Int64)), .second, .val (.int (4 : Int32)), .val (.int v18), .val (.int v26), .val (.int v35), .val (.long v44), .second, .val (.long v53), .second, .val (.long v62), .second, .val (.long v66), .second, .val (.long v73), .second, .val (.long v80), .second, .val (.long v87), .second, .val (.int v104), .val (.int v134), .val (.int v167), .val (.int v190), .val (.ref a195), .val (.ref a201), .val (.ref a6), .val (.long v339), .second, .val (.long v370), .second, .val (.long v403), .second, .val (.long v413), .second, .val (.long v424), .second, .val (.long v439), .second, .val (.long v640), .second, .val (.long v651), .second, .val (.long v640), .second, .val (.long v651), .second, .val (.long v403), .second, .val (.long (8 : Int64)), .second, .val (.long v489), .second, .val (.long v503), .second, .unset]) (pc' := 662) K at_660 rfl rfl ?_
    refine oW.goto (pc' := 689) K at_662 (by decide) (by decide) ?_
    refine oW.aload (pc' := 691) K at_689 rfl rfl rfl ?_
    refine oW.iconst (v := (0 : Int32)) (pc' := 692) K at_691 (by decide) rfl ?_
    refine oW.daload (i := 6) (k := 0) (pc' := 693) K at_692 rfl rfl (by decide) rfl rfl ?_
    refine oW.lload (pc' := 695) K at_693 rfl rfl ?_
    refine oW.lload (pc' := 697) K at_695 rfl rfl ?_
    refine oW.callS (argsL := [(.double v0), (.long v640), (.long v651)]) (S := []) (rm := ({ frames := 0, cells := 0, slots := 0, locals := 0 } : Room)) (W := 0) (cells' := 7) (slots' := 28) (pc' := 700) K (hw _ (List.mem_of_getElem? (i := 17) rfl)) (hw _ (List.mem_of_getElem? (i := 18) rfl)) (hw _ (List.mem_of_getElem? (i := 19) rfl)) (hw _ (List.mem_of_getElem? (i := 20) rfl)) (by decide) (own_sameD hw q0v (by have := (tv640 : v640.toInt = _); omega) (by have := (tv651 : v651.toInt = _); omega) (by omega) (by omega)) (lenOf pd_3 rfl) at_697 rfl rfl (Nat.le_of_eq rfl) (by decide) (by decide) (by decide) (by decide) rfl rfl rfl ?_
    rintro _ _ ⟨rfl, rfl⟩
    refine oW.istore (Ls' := #[.val (.int p0), .val (.int p1), .val (.int p2), .val (.int p3), .val (.int p4), .val (.long (1099511627776 : Int64)), .second, .val (.int (4 : Int32)), .val (.int v18), .val (.int v26), .val (.int v35), .val (.long v44), .second, .val (.long v53), .second, .val (.long v62), .second, .val (.long v66), .second, .val (.long v73), .second, .val (.long v80), .second, .val (.long v87), .second, .val (.int v104), .val (.int v134), .val (.int v167), .val (.int v190), .val (.ref a195), .val (.ref a201), .val (.ref a6), .val (.long v339), .second, .val (.long v370), .second, .val (.long v403), .second, .val (.long v413), .second, .val (.long v424), .second, .val (.long v439), .second, .val (.long v640), .second, .val (.long v651), .second, .val (.long v640), .second, .val (.long v651), .second, .val (.long v403), .second, .val (.long (8 : Int64)), .second, .val (.long v489), .second, .val (.long v503), .second, .val (.int (1 : Int32))]) (pc' := 702) K at_700 rfl rfl ?_
    refine oW.iload (pc' := 704) K at_702 rfl rfl ?_
    refine oW.iconst (v := (1 : Int32)) (pc' := 705) K at_704 (by decide) rfl ?_
    refine oW.icmp_le (pc' := 734) (pc3 := 708) K at_705 (by decide) (by decide) rfl (fun q => absurd q (by decide)) (fun _ => ?_)
    refine oW.iload (pc' := 710) K at_708 rfl rfl ?_
    refine oW.if_eq (pc' := 731) (pc3 := 713) K at_710 (by decide) (by decide) rfl (fun q => absurd q (by decide)) (fun _ => ?_)
    refine oW.aload (pc' := 715) K at_713 rfl rfl rfl ?_
    refine oW.iconst (v := (1 : Int32)) (pc' := 716) K at_715 (by decide) rfl ?_
    refine oW.daload (i := 6) (k := 1) (pc' := 717) K at_716 rfl rfl (by decide) rfl rfl ?_
    refine oW.lload (pc' := 719) K at_717 rfl rfl ?_
    refine oW.lload (pc' := 721) K at_719 rfl rfl ?_
    refine oW.callS (argsL := [(.double v0), (.long v640), (.long v651)]) (S := []) (rm := ({ frames := 0, cells := 0, slots := 0, locals := 0 } : Room)) (W := 0) (cells' := 7) (slots' := 28) (pc' := 724) K (hw _ (List.mem_of_getElem? (i := 17) rfl)) (hw _ (List.mem_of_getElem? (i := 18) rfl)) (hw _ (List.mem_of_getElem? (i := 19) rfl)) (hw _ (List.mem_of_getElem? (i := 20) rfl)) (by decide) (own_sameD hw q0v (by have := (tv640 : v640.toInt = _); omega) (by have := (tv651 : v651.toInt = _); omega) (by omega) (by omega)) (lenOf pd_3 rfl) at_721 rfl rfl (Nat.le_of_eq rfl) (by decide) (by decide) (by decide) (by decide) rfl rfl rfl ?_
    rintro _ _ ⟨rfl, rfl⟩
    refine oW.if_eq (pc' := 731) (pc3 := 727) K at_724 (by decide) (by decide) rfl (fun q => absurd q (by decide)) (fun _ => ?_)
    refine oW.iconst (v := (1 : Int32)) (pc' := 728) K at_727 (by decide) rfl ?_
    refine oW.goto (pc' := 732) K at_728 (by decide) (by decide) ?_
    refine oW.istore (Ls' := #[.val (.int p0), .val (.int p1), .val (.int p2), .val (.int p3), .val (.int p4), .val (.long (1099511627776 : Int64)), .second, .val (.int (4 : Int32)), .val (.int v18), .val (.int v26), .val (.int v35), .val (.long v44), .second, .val (.long v53), .second, .val (.long v62), .second, .val (.long v66), .second, .val (.long v73), .second, .val (.long v80), .second, .val (.long v87), .second, .val (.int v104), .val (.int v134), .val (.int v167), .val (.int v190), .val (.ref a195), .val (.ref a201), .val (.ref a6), .val (.long v339), .second, .val (.long v370), .second, .val (.long v403), .second, .val (.long v413), .second, .val (.long v424), .second, .val (.long v439), .second, .val (.long v640), .second, .val (.long v651), .second, .val (.long v640), .second, .val (.long v651), .second, .val (.long v403), .second, .val (.long (8 : Int64)), .second, .val (.long v489), .second, .val (.long v503), .second, .val (.int (1 : Int32))]) (pc' := 734) K at_732 rfl rfl ?_
    refine oW.iload (pc' := 736) K at_734 rfl rfl ?_
    refine oW.iconst (v := (2 : Int32)) (pc' := 737) K at_736 (by decide) rfl ?_
    refine oW.icmp_le (pc' := 766) (pc3 := 740) K at_737 (by decide) (by decide) rfl (fun q => absurd q (by decide)) (fun _ => ?_)
    refine oW.iload (pc' := 742) K at_740 rfl rfl ?_
    refine oW.if_eq (pc' := 763) (pc3 := 745) K at_742 (by decide) (by decide) rfl (fun q => absurd q (by decide)) (fun _ => ?_)
    refine oW.aload (pc' := 747) K at_745 rfl rfl rfl ?_
    refine oW.iconst (v := (2 : Int32)) (pc' := 748) K at_747 (by decide) rfl ?_
    refine oW.daload (i := 6) (k := 2) (pc' := 749) K at_748 rfl rfl (by decide) rfl rfl ?_
    refine oW.lload (pc' := 751) K at_749 rfl rfl ?_
    refine oW.lload (pc' := 753) K at_751 rfl rfl ?_
    refine oW.callS (argsL := [(.double v2), (.long v403), (.long (8 : Int64))]) (S := []) (rm := ({ frames := 0, cells := 0, slots := 0, locals := 0 } : Room)) (W := 0) (cells' := 7) (slots' := 28) (pc' := 756) K (hw _ (List.mem_of_getElem? (i := 17) rfl)) (hw _ (List.mem_of_getElem? (i := 18) rfl)) (hw _ (List.mem_of_getElem? (i := 19) rfl)) (hw _ (List.mem_of_getElem? (i := 20) rfl)) (by decide) (own_sameQ hw q2v (tv403) ((by decide : ((8 : Int64)).toInt = 8)) (by omega)) (lenOf pd_3 rfl) at_753 rfl rfl (Nat.le_of_eq rfl) (by decide) (by decide) (by decide) (by decide) rfl rfl rfl ?_
    rintro _ _ ⟨rfl, rfl⟩
    refine oW.if_eq (pc' := 763) (pc3 := 759) K at_756 (by decide) (by decide) rfl (fun q => absurd q (by decide)) (fun _ => ?_)
    refine oW.iconst (v := (1 : Int32)) (pc' := 760) K at_759 (by decide) rfl ?_
    refine oW.goto (pc' := 764) K at_760 (by decide) (by decide) ?_
    refine oW.istore (Ls' := #[.val (.int p0), .val (.int p1), .val (.int p2), .val (.int p3), .val (.int p4), .val (.long (1099511627776 : Int64)), .second, .val (.int (4 : Int32)), .val (.int v18), .val (.int v26), .val (.int v35), .val (.long v44), .second, .val (.long v53), .second, .val (.long v62), .second, .val (.long v66), .second, .val (.long v73), .second, .val (.long v80), .second, .val (.long v87), .second, .val (.int v104), .val (.int v134), .val (.int v167), .val (.int v190), .val (.ref a195), .val (.ref a201), .val (.ref a6), .val (.long v339), .second, .val (.long v370), .second, .val (.long v403), .second, .val (.long v413), .second, .val (.long v424), .second, .val (.long v439), .second, .val (.long v640), .second, .val (.long v651), .second, .val (.long v640), .second, .val (.long v651), .second, .val (.long v403), .second, .val (.long (8 : Int64)), .second, .val (.long v489), .second, .val (.long v503), .second, .val (.int (1 : Int32))]) (pc' := 766) K at_764 rfl rfl ?_
    refine oW.iload (pc' := 768) K at_766 rfl rfl ?_
    refine oW.iconst (v := (3 : Int32)) (pc' := 769) K at_768 (by decide) rfl ?_
    refine oW.icmp_le (pc' := 795) (pc3 := 772) K at_769 (by decide) (by decide) rfl (fun q => absurd q (by decide)) (fun _ => ?_)
    refine oW.iload (pc' := 774) K at_772 rfl rfl ?_
    refine oW.if_eq (pc' := 792) (pc3 := 777) K at_774 (by decide) (by decide) rfl (fun q => absurd q (by decide)) (fun _ => ?_)
    refine oW.aload (pc' := 779) K at_777 rfl rfl rfl ?_
    refine oW.iconst (v := (3 : Int32)) (pc' := 780) K at_779 (by decide) rfl ?_
    refine oW.daload (i := 6) (k := 3) (pc' := 781) K at_780 rfl rfl (by decide) rfl rfl ?_
    refine oW.lload (pc' := 783) K at_781 rfl rfl ?_
    obtain ⟨v783, ev783⟩ : ∃ t_ : UInt64, t_ = FP.l2d v87 := ⟨_, rfl⟩
    have qv783 : oQ (u3) 0 v783 := oQ.int (hu3 ▸ oL2D ev783 (by have h1 := hu3; omega))
    refine oW.l2d (pc' := 784) K at_783 ev783 rfl ?_
    obtain ⟨v784, ev784⟩ : ∃ t_ : Int32, t_ = cmpValue (FP.dcmp v3 v783) .l := ⟨_, rfl⟩
    refine oW.dcmp (pc' := 785) K at_784 ev784 rfl ?_
    refine oW.if_ne (pc' := 792) (pc3 := 788) K at_785 (by decide) (by decide) rfl (fun q => absurd ((q3v.cmp (qv783.up 3 rfl (by decide) hRl) ev784).2.1.mpr rfl) q) (fun c785 => ?_)
    refine oW.iconst (v := (1 : Int32)) (pc' := 789) K at_788 (by decide) rfl ?_
    refine oW.goto (pc' := 793) K at_789 (by decide) (by decide) ?_
    refine oW.istore (Ls' := #[.val (.int p0), .val (.int p1), .val (.int p2), .val (.int p3), .val (.int p4), .val (.long (1099511627776 : Int64)), .second, .val (.int (4 : Int32)), .val (.int v18), .val (.int v26), .val (.int v35), .val (.long v44), .second, .val (.long v53), .second, .val (.long v62), .second, .val (.long v66), .second, .val (.long v73), .second, .val (.long v80), .second, .val (.long v87), .second, .val (.int v104), .val (.int v134), .val (.int v167), .val (.int v190), .val (.ref a195), .val (.ref a201), .val (.ref a6), .val (.long v339), .second, .val (.long v370), .second, .val (.long v403), .second, .val (.long v413), .second, .val (.long v424), .second, .val (.long v439), .second, .val (.long v640), .second, .val (.long v651), .second, .val (.long v640), .second, .val (.long v651), .second, .val (.long v403), .second, .val (.long (8 : Int64)), .second, .val (.long v489), .second, .val (.long v503), .second, .val (.int (1 : Int32))]) (pc' := 795) K at_793 rfl rfl ?_
    refine oW.iload (pc' := 797) K at_795 rfl rfl ?_
    exact oW.retB K rfl at_797 (by decide) (by decide) ⟨_, rfl, rfl⟩
  · refine oW.lload (pc' := 508) K at_506 rfl rfl ?_
    refine oW.lload (pc' := 510) K at_508 rfl rfl ?_
    obtain ⟨v510, ev510⟩ : ∃ t_ : Int32, t_ = XT.cmpL v339 v370 := ⟨_, rfl⟩
    refine oW.lcmp (pc' := 511) K at_510 ev510 rfl ?_
    refine oW.if_gt (pc' := 607) (pc3 := 514) K at_511 (by decide) (by decide) rfl (fun c511 => ?_) (fun q => absurd q (by rw [(oLcmp ev510).2.2]; have := (tv339 : v339.toInt = _); have := (tv370 : v370.toInt = _); omega))
    refine oW.lload (pc' := 609) K at_607 rfl rfl ?_
    refine oW.lload (pc' := 611) K at_609 rfl rfl ?_
    obtain ⟨v611, ev611⟩ : ∃ t_ : Int64, t_ = v413 * v339 := ⟨_, rfl⟩
    refine oW.lmul (pc' := 612) K at_611 ev611 rfl ?_
    have tv611 : v611.toInt = q0 * R0 := (oLmul ev611 (by rw [tv413, tv339]; omega)).trans (by rw [tv413, tv339])
    refine oW.lload (pc' := 614) K at_612 rfl rfl ?_
    refine oW.lload (pc' := 616) K at_614 rfl rfl ?_
    obtain ⟨v616, ev616⟩ : ∃ t_ : Int64, t_ = v424 * v370 := ⟨_, rfl⟩
    refine oW.lmul (pc' := 617) K at_616 ev616 rfl ?_
    have tv616 : v616.toInt = q1 * R1 := (oLmul ev616 (by rw [tv424, tv370]; omega)).trans (by rw [tv424, tv370])
    obtain ⟨v617, ev617⟩ : ∃ t_ : Int64, t_ = v611 + v616 := ⟨_, rfl⟩
    refine oW.ladd (pc' := 618) K at_617 ev617 rfl ?_
    have tv617 : v617.toInt = q0 * R0 + q1 * R1 := by have h1 := (tv611 : v611.toInt = _); have h2 := (tv616 : v616.toInt = _); have h := oLadd ev617 (by omega); omega
    refine oW.lload (pc' := 620) K at_618 rfl rfl ?_
    refine oW.lload (pc' := 622) K at_620 rfl rfl ?_
    refine oW.lload (pc' := 624) K at_622 rfl rfl ?_
    obtain ⟨v624, ev624⟩ : ∃ t_ : Int64, t_ = v413 + v424 := ⟨_, rfl⟩
    refine oW.ladd (pc' := 625) K at_624 ev624 rfl ?_
    have tv624 : v624.toInt = q0 + q1 := by have h1 := (tv413 : v413.toInt = _); have h2 := (tv424 : v424.toInt = _); have h := oLadd ev624 (by omega); omega
    obtain ⟨v625, ev625⟩ : ∃ t_ : Int64, t_ = v403 * v624 := ⟨_, rfl⟩
    refine oW.lmul (pc' := 626) K at_625 ev625 rfl ?_
    have tv625 : v625.toInt = R2 * (q0 + q1) := (oLmul ev625 (by rw [tv403, tv624]; omega)).trans (by rw [tv403, tv624])
    obtain ⟨v626, ev626⟩ : ∃ t_ : Int32, t_ = XT.cmpL v617 v625 := ⟨_, rfl⟩
    refine oW.lcmp (pc' := 627) K at_626 ev626 rfl ?_
    refine oW.if_gt (pc' := 665) (pc3 := 630) K at_627 (by decide) (by decide) rfl (fun c627 => ?_) (fun q => absurd q (by rw [(oLcmp ev626).2.2]; have := (tv617 : v617.toInt = _); have := (tv625 : v625.toInt = _); omega))
    refine oW.lload (pc' := 667) K at_665 rfl rfl ?_
    refine oW.lstore (Ls' := #[.val (.int p0), .val (.int p1), .val (.int p2), .val (.int p3), .val (.int p4), .val (.long (1099511627776 : Int64)), .second, .val (.int (4 : Int32)), .val (.int v18), .val (.int v26), .val (.int v35), .val (.long v44), .second, .val (.long v53), .second, .val (.long v62), .second, .val (.long v66), .second, .val (.long v73), .second, .val (.long v80), .second, .val (.long v87), .second, .val (.int v104), .val (.int v134), .val (.int v167), .val (.int v190), .val (.ref a195), .val (.ref a201), .val (.ref a6), .val (.long v339), .second, .val (.long v370), .second, .val (.long v403), .second, .val (.long v413), .second, .val (.long v424), .second, .val (.long v439), .second, .val (.long v489), .second, .val (.long (8 : Int64)), .second, .val (.long v370), .second, .val (.long (8 : Int64)), .second, .val (.long v403), .second, .val (.long (8 : Int64)), .second, .val (.long v489), .second, .val (.long v503), .second, .unset]) (pc' := 669) K at_667 rfl rfl ?_
    refine oW.lload (pc' := 671) K at_669 rfl rfl ?_
    refine oW.lstore (Ls' := #[.val (.int p0), .val (.int p1), .val (.int p2), .val (.int p3), .val (.int p4), .val (.long (1099511627776 : Int64)), .second, .val (.int (4 : Int32)), .val (.int v18), .val (.int v26), .val (.int v35), .val (.long v44), .second, .val (.long v53), .second, .val (.long v62), .second, .val (.long v66), .second, .val (.long v73), .second, .val (.long v80), .second, .val (.long v87), .second, .val (.int v104), .val (.int v134), .val (.int v167), .val (.int v190), .val (.ref a195), .val (.ref a201), .val (.ref a6), .val (.long v339), .second, .val (.long v370), .second, .val (.long v403), .second, .val (.long v413), .second, .val (.long v424), .second, .val (.long v439), .second, .val (.long v489), .second, .val (.long (8 : Int64)), .second, .val (.long v489), .second, .val (.long (8 : Int64)), .second, .val (.long v403), .second, .val (.long (8 : Int64)), .second, .val (.long v489), .second, .val (.long v503), .second, .unset]) (pc' := 673) K at_671 rfl rfl ?_
    refine oW.lload (pc' := 675) K at_673 rfl rfl ?_
    refine oW.lstore (Ls' := #[.val (.int p0), .val (.int p1), .val (.int p2), .val (.int p3), .val (.int p4), .val (.long (1099511627776 : Int64)), .second, .val (.int (4 : Int32)), .val (.int v18), .val (.int v26), .val (.int v35), .val (.long v44), .second, .val (.long v53), .second, .val (.long v62), .second, .val (.long v66), .second, .val (.long v73), .second, .val (.long v80), .second, .val (.long v87), .second, .val (.int v104), .val (.int v134), .val (.int v167), .val (.int v190), .val (.ref a195), .val (.ref a201), .val (.ref a6), .val (.long v339), .second, .val (.long v370), .second, .val (.long v403), .second, .val (.long v413), .second, .val (.long v424), .second, .val (.long v439), .second, .val (.long v489), .second, .val (.long (8 : Int64)), .second, .val (.long v489), .second, .val (.long (8 : Int64)), .second, .val (.long v489), .second, .val (.long (8 : Int64)), .second, .val (.long v489), .second, .val (.long v503), .second, .unset]) (pc' := 677) K at_675 rfl rfl ?_
    refine oW.lload (pc' := 679) K at_677 rfl rfl ?_
    refine oW.lstore (Ls' := #[.val (.int p0), .val (.int p1), .val (.int p2), .val (.int p3), .val (.int p4), .val (.long (1099511627776 : Int64)), .second, .val (.int (4 : Int32)), .val (.int v18), .val (.int v26), .val (.int v35), .val (.long v44), .second, .val (.long v53), .second, .val (.long v62), .second, .val (.long v66), .second, .val (.long v73), .second, .val (.long v80), .second, .val (.long v87), .second, .val (.int v104), .val (.int v134), .val (.int v167), .val (.int v190), .val (.ref a195), .val (.ref a201), .val (.ref a6), .val (.long v339), .second, .val (.long v370), .second, .val (.long v403), .second, .val (.long v413), .second, .val (.long v424), .second, .val (.long v439), .second, .val (.long v489), .second, .val (.long v503), .second, .val (.long v489), .second, .val (.long (8 : Int64)), .second, .val (.long v489), .second, .val (.long (8 : Int64)), .second, .val (.long v489), .second, .val (.long v503), .second, .unset]) (pc' := 681) K at_679 rfl rfl ?_
    refine oW.lload (pc' := 683) K at_681 rfl rfl ?_
    refine oW.lstore (Ls' := #[.val (.int p0), .val (.int p1), .val (.int p2), .val (.int p3), .val (.int p4), .val (.long (1099511627776 : Int64)), .second, .val (.int (4 : Int32)), .val (.int v18), .val (.int v26), .val (.int v35), .val (.long v44), .second, .val (.long v53), .second, .val (.long v62), .second, .val (.long v66), .second, .val (.long v73), .second, .val (.long v80), .second, .val (.long v87), .second, .val (.int v104), .val (.int v134), .val (.int v167), .val (.int v190), .val (.ref a195), .val (.ref a201), .val (.ref a6), .val (.long v339), .second, .val (.long v370), .second, .val (.long v403), .second, .val (.long v413), .second, .val (.long v424), .second, .val (.long v439), .second, .val (.long v489), .second, .val (.long v503), .second, .val (.long v489), .second, .val (.long v503), .second, .val (.long v489), .second, .val (.long (8 : Int64)), .second, .val (.long v489), .second, .val (.long v503), .second, .unset]) (pc' := 685) K at_683 rfl rfl ?_
    refine oW.lload (pc' := 687) K at_685 rfl rfl ?_
    refine oW.lstore (Ls' := #[.val (.int p0), .val (.int p1), .val (.int p2), .val (.int p3), .val (.int p4), .val (.long (1099511627776 : Int64)), .second, .val (.int (4 : Int32)), .val (.int v18), .val (.int v26), .val (.int v35), .val (.long v44), .second, .val (.long v53), .second, .val (.long v62), .second, .val (.long v66), .second, .val (.long v73), .second, .val (.long v80), .second, .val (.long v87), .second, .val (.int v104), .val (.int v134), .val (.int v167), .val (.int v190), .val (.ref a195), .val (.ref a201), .val (.ref a6), .val (.long v339), .second, .val (.long v370), .second, .val (.long v403), .second, .val (.long v413), .second, .val (.long v424), .second, .val (.long v439), .second, .val (.long v489), .second, .val (.long v503), .second, .val (.long v489), .second, .val (.long v503), .second, .val (.long v489), .second, .val (.long v503), .second, .val (.long v489), .second, .val (.long v503), .second, .unset]) (pc' := 689) K at_687 rfl rfl ?_
    refine oW.aload (pc' := 691) K at_689 rfl rfl rfl ?_
    refine oW.iconst (v := (0 : Int32)) (pc' := 692) K at_691 (by decide) rfl ?_
    refine oW.daload (i := 6) (k := 0) (pc' := 693) K at_692 rfl rfl (by decide) rfl rfl ?_
    refine oW.lload (pc' := 695) K at_693 rfl rfl ?_
    refine oW.lload (pc' := 697) K at_695 rfl rfl ?_
    refine oW.callS (argsL := [(.double v0), (.long v489), (.long v503)]) (S := []) (rm := ({ frames := 0, cells := 0, slots := 0, locals := 0 } : Room)) (W := 0) (cells' := 7) (slots' := 28) (pc' := 700) K (hw _ (List.mem_of_getElem? (i := 17) rfl)) (hw _ (List.mem_of_getElem? (i := 18) rfl)) (hw _ (List.mem_of_getElem? (i := 19) rfl)) (hw _ (List.mem_of_getElem? (i := 20) rfl)) (by decide) (own_sameD hw q0v (by have := (tv489 : v489.toInt = _); omega) (by have := (tv503 : v503.toInt = _); omega) (by omega) (by omega)) (lenOf pd_3 rfl) at_697 rfl rfl (Nat.le_of_eq rfl) (by decide) (by decide) (by decide) (by decide) rfl rfl rfl ?_
    rintro _ _ ⟨rfl, rfl⟩
    refine oW.istore (Ls' := #[.val (.int p0), .val (.int p1), .val (.int p2), .val (.int p3), .val (.int p4), .val (.long (1099511627776 : Int64)), .second, .val (.int (4 : Int32)), .val (.int v18), .val (.int v26), .val (.int v35), .val (.long v44), .second, .val (.long v53), .second, .val (.long v62), .second, .val (.long v66), .second, .val (.long v73), .second, .val (.long v80), .second, .val (.long v87), .second, .val (.int v104), .val (.int v134), .val (.int v167), .val (.int v190), .val (.ref a195), .val (.ref a201), .val (.ref a6), .val (.long v339), .second, .val (.long v370), .second, .val (.long v403), .second, .val (.long v413), .second, .val (.long v424), .second, .val (.long v439), .second, .val (.long v489), .second, .val (.long v503), .second, .val (.long v489), .second, .val (.long v503), .second, .val (.long v489), .second, .val (.long v503), .second, .val (.long v489), .second, .val (.long v503), .second, .val (.int (1 : Int32))]) (pc' := 702) K at_700 rfl rfl ?_
    refine oW.iload (pc' := 704) K at_702 rfl rfl ?_
    refine oW.iconst (v := (1 : Int32)) (pc' := 705) K at_704 (by decide) rfl ?_
    refine oW.icmp_le (pc' := 734) (pc3 := 708) K at_705 (by decide) (by decide) rfl (fun q => absurd q (by decide)) (fun _ => ?_)
    refine oW.iload (pc' := 710) K at_708 rfl rfl ?_
    refine oW.if_eq (pc' := 731) (pc3 := 713) K at_710 (by decide) (by decide) rfl (fun q => absurd q (by decide)) (fun _ => ?_)
    refine oW.aload (pc' := 715) K at_713 rfl rfl rfl ?_
    refine oW.iconst (v := (1 : Int32)) (pc' := 716) K at_715 (by decide) rfl ?_
    refine oW.daload (i := 6) (k := 1) (pc' := 717) K at_716 rfl rfl (by decide) rfl rfl ?_
    refine oW.lload (pc' := 719) K at_717 rfl rfl ?_
    refine oW.lload (pc' := 721) K at_719 rfl rfl ?_
    refine oW.callS (argsL := [(.double v0), (.long v489), (.long v503)]) (S := []) (rm := ({ frames := 0, cells := 0, slots := 0, locals := 0 } : Room)) (W := 0) (cells' := 7) (slots' := 28) (pc' := 724) K (hw _ (List.mem_of_getElem? (i := 17) rfl)) (hw _ (List.mem_of_getElem? (i := 18) rfl)) (hw _ (List.mem_of_getElem? (i := 19) rfl)) (hw _ (List.mem_of_getElem? (i := 20) rfl)) (by decide) (own_sameD hw q0v (by have := (tv489 : v489.toInt = _); omega) (by have := (tv503 : v503.toInt = _); omega) (by omega) (by omega)) (lenOf pd_3 rfl) at_721 rfl rfl (Nat.le_of_eq rfl) (by decide) (by decide) (by decide) (by decide) rfl rfl rfl ?_
    rintro _ _ ⟨rfl, rfl⟩
    refine oW.if_eq (pc' := 731) (pc3 := 727) K at_724 (by decide) (by decide) rfl (fun q => absurd q (by decide)) (fun _ => ?_)
    refine oW.iconst (v := (1 : Int32)) (pc' := 728) K at_727 (by decide) rfl ?_
    refine oW.goto (pc' := 732) K at_728 (by decide) (by decide) ?_
    refine oW.istore (Ls' := #[.val (.int p0), .val (.int p1), .val (.int p2), .val (.int p3), .val (.int p4), .val (.long (1099511627776 : Int64)), .second, .val (.int (4 : Int32)), .val (.int v18), .val (.int v26), .val (.int v35), .val (.long v44), .second, .val (.long v53), .second, .val (.long v62), .second, .val (.long v66), .second, .val (.long v73), .second, .val (.long v80), .second, .val (.long v87), .second, .val (.int v104), .val (.int v134), .val (.int v167), .val (.int v190), .val (.ref a195), .val (.ref a201), .val (.ref a6), .val (.long v339), .second, .val (.long v370), .second, .val (.long v403), .second, .val (.long v413), .second, .val (.long v424), .second, .val (.long v439), .second, .val (.long v489), .second, .val (.long v503), .second, .val (.long v489), .second, .val (.long v503), .second, .val (.long v489), .second, .val (.long v503), .second, .val (.long v489), .second, .val (.long v503), .second, .val (.int (1 : Int32))]) (pc' := 734) K at_732 rfl rfl ?_
    refine oW.iload (pc' := 736) K at_734 rfl rfl ?_
    refine oW.iconst (v := (2 : Int32)) (pc' := 737) K at_736 (by decide) rfl ?_
    refine oW.icmp_le (pc' := 766) (pc3 := 740) K at_737 (by decide) (by decide) rfl (fun q => absurd q (by decide)) (fun _ => ?_)
    refine oW.iload (pc' := 742) K at_740 rfl rfl ?_
    refine oW.if_eq (pc' := 763) (pc3 := 745) K at_742 (by decide) (by decide) rfl (fun q => absurd q (by decide)) (fun _ => ?_)
    refine oW.aload (pc' := 747) K at_745 rfl rfl rfl ?_
    refine oW.iconst (v := (2 : Int32)) (pc' := 748) K at_747 (by decide) rfl ?_
    refine oW.daload (i := 6) (k := 2) (pc' := 749) K at_748 rfl rfl (by decide) rfl rfl ?_
    refine oW.lload (pc' := 751) K at_749 rfl rfl ?_
    refine oW.lload (pc' := 753) K at_751 rfl rfl ?_
    refine oW.callS (argsL := [(.double v0), (.long v489), (.long v503)]) (S := []) (rm := ({ frames := 0, cells := 0, slots := 0, locals := 0 } : Room)) (W := 0) (cells' := 7) (slots' := 28) (pc' := 756) K (hw _ (List.mem_of_getElem? (i := 17) rfl)) (hw _ (List.mem_of_getElem? (i := 18) rfl)) (hw _ (List.mem_of_getElem? (i := 19) rfl)) (hw _ (List.mem_of_getElem? (i := 20) rfl)) (by decide) (own_sameD hw q0v (by have := (tv489 : v489.toInt = _); omega) (by have := (tv503 : v503.toInt = _); omega) (by omega) (by omega)) (lenOf pd_3 rfl) at_753 rfl rfl (Nat.le_of_eq rfl) (by decide) (by decide) (by decide) (by decide) rfl rfl rfl ?_
    rintro _ _ ⟨rfl, rfl⟩
    refine oW.if_eq (pc' := 763) (pc3 := 759) K at_756 (by decide) (by decide) rfl (fun q => absurd q (by decide)) (fun _ => ?_)
    refine oW.iconst (v := (1 : Int32)) (pc' := 760) K at_759 (by decide) rfl ?_
    refine oW.goto (pc' := 764) K at_760 (by decide) (by decide) ?_
    refine oW.istore (Ls' := #[.val (.int p0), .val (.int p1), .val (.int p2), .val (.int p3), .val (.int p4), .val (.long (1099511627776 : Int64)), .second, .val (.int (4 : Int32)), .val (.int v18), .val (.int v26), .val (.int v35), .val (.long v44), .second, .val (.long v53), .second, .val (.long v62), .second, .val (.long v66), .second, .val (.long v73), .second, .val (.long v80), .second, .val (.long v87), .second, .val (.int v104), .val (.int v134), .val (.int v167), .val (.int v190), .val (.ref a195), .val (.ref a201), .val (.ref a6), .val (.long v339), .second, .val (.long v370), .second, .val (.long v403), .second, .val (.long v413), .second, .val (.long v424), .second, .val (.long v439), .second, .val (.long v489), .second, .val (.long v503), .second, .val (.long v489), .second, .val (.long v503), .second, .val (.long v489), .second, .val (.long v503), .second, .val (.long v489), .second, .val (.long v503), .second, .val (.int (1 : Int32))]) (pc' := 766) K at_764 rfl rfl ?_
    refine oW.iload (pc' := 768) K at_766 rfl rfl ?_
    refine oW.iconst (v := (3 : Int32)) (pc' := 769) K at_768 (by decide) rfl ?_
    refine oW.icmp_le (pc' := 795) (pc3 := 772) K at_769 (by decide) (by decide) rfl (fun q => absurd q (by decide)) (fun _ => ?_)
    refine oW.iload (pc' := 774) K at_772 rfl rfl ?_
    refine oW.if_eq (pc' := 792) (pc3 := 777) K at_774 (by decide) (by decide) rfl (fun q => absurd q (by decide)) (fun _ => ?_)
    refine oW.aload (pc' := 779) K at_777 rfl rfl rfl ?_
    refine oW.iconst (v := (3 : Int32)) (pc' := 780) K at_779 (by decide) rfl ?_
    refine oW.daload (i := 6) (k := 3) (pc' := 781) K at_780 rfl rfl (by decide) rfl rfl ?_
    refine oW.lload (pc' := 783) K at_781 rfl rfl ?_
    obtain ⟨v783, ev783⟩ : ∃ t_ : UInt64, t_ = FP.l2d v87 := ⟨_, rfl⟩
    have qv783 : oQ (u3) 0 v783 := oQ.int (hu3 ▸ oL2D ev783 (by have h1 := hu3; omega))
    refine oW.l2d (pc' := 784) K at_783 ev783 rfl ?_
    obtain ⟨v784, ev784⟩ : ∃ t_ : Int32, t_ = cmpValue (FP.dcmp v3 v783) .l := ⟨_, rfl⟩
    refine oW.dcmp (pc' := 785) K at_784 ev784 rfl ?_
    refine oW.if_ne (pc' := 792) (pc3 := 788) K at_785 (by decide) (by decide) rfl (fun q => absurd ((q3v.cmp (qv783.up 3 rfl (by decide) hRl) ev784).2.1.mpr rfl) q) (fun c785 => ?_)
    refine oW.iconst (v := (1 : Int32)) (pc' := 789) K at_788 (by decide) rfl ?_
    refine oW.goto (pc' := 793) K at_789 (by decide) (by decide) ?_
    refine oW.istore (Ls' := #[.val (.int p0), .val (.int p1), .val (.int p2), .val (.int p3), .val (.int p4), .val (.long (1099511627776 : Int64)), .second, .val (.int (4 : Int32)), .val (.int v18), .val (.int v26), .val (.int v35), .val (.long v44), .second, .val (.long v53), .second, .val (.long v62), .second, .val (.long v66), .second, .val (.long v73), .second, .val (.long v80), .second, .val (.long v87), .second, .val (.int v104), .val (.int v134), .val (.int v167), .val (.int v190), .val (.ref a195), .val (.ref a201), .val (.ref a6), .val (.long v339), .second, .val (.long v370), .second, .val (.long v403), .second, .val (.long v413), .second, .val (.long v424), .second, .val (.long v439), .second, .val (.long v489), .second, .val (.long v503), .second, .val (.long v489), .second, .val (.long v503), .second, .val (.long v489), .second, .val (.long v503), .second, .val (.long v489), .second, .val (.long v503), .second, .val (.int (1 : Int32))]) (pc' := 795) K at_793 rfl rfl ?_
    refine oW.iload (pc' := 797) K at_795 rfl rfl ?_
    exact oW.retB K rfl at_797 (by decide) (by decide) ⟨_, rfl, rfl⟩
set_option maxRecDepth 65536 in
set_option maxHeartbeats 40000000 in
theorem own_law {l : Launch} {Z : State} {a0 : Array Value} {h0 : Heap} (hw : ∀ d ∈ tables_1, d.before a0 Z = true) (p0 : Int32) (p1 : Int32) (p2 : Int32) (p3 : Int32) (p4 : Int32) :
    oCtr l Z h0 tables_1 x code maxLocals ret room_1 #[(.int p0), (.int p1), (.int p2), (.int p3), (.int p4)] [] (oVal fun w _ => w = .int 1) := by
  refine oCtr.of (Ls := #[.val (.int p0), .val (.int p1), .val (.int p2), .val (.int p3), .val (.int p4), .unset, .unset, .unset, .unset, .unset, .unset, .unset, .unset, .unset, .unset, .unset, .unset, .unset, .unset, .unset, .unset, .unset, .unset, .unset, .unset, .unset, .unset, .unset, .unset, .unset, .unset, .unset, .unset, .unset, .unset, .unset, .unset, .unset, .unset, .unset, .unset, .unset, .unset, .unset, .unset, .unset, .unset, .unset, .unset, .unset, .unset, .unset, .unset, .unset, .unset, .unset, .unset, .unset, .unset, .unset, .unset]) (plainFor_of_name (by first | (simp [plainName, overriddenIn]; done) | decide +kernel)) (fun m => by first | (simp [entryFrame, mkF, argsToLocals, Value.category, maxLocals]; done) | rfl) ?_
  intro p e s m below meth c K
  refine oW.ldc2L (pc' := 3) K (hw _ (List.mem_of_getElem? (i := 0) rfl)) at_0 rfl ?_
  refine oW.lstore (Ls' := #[.val (.int p0), .val (.int p1), .val (.int p2), .val (.int p3), .val (.int p4), .val (.long (1099511627776 : Int64)), .second, .unset, .unset, .unset, .unset, .unset, .unset, .unset, .unset, .unset, .unset, .unset, .unset, .unset, .unset, .unset, .unset, .unset, .unset, .unset, .unset, .unset, .unset, .unset, .unset, .unset, .unset, .unset, .unset, .unset, .unset, .unset, .unset, .unset, .unset, .unset, .unset, .unset, .unset, .unset, .unset, .unset, .unset, .unset, .unset, .unset, .unset, .unset, .unset, .unset, .unset, .unset, .unset, .unset, .unset]) (pc' := 5) K at_3 rfl rfl ?_
  refine oW.iconst (v := (1 : Int32)) (pc' := 6) K at_5 (by decide) rfl ?_
  refine oW.iload (pc' := 8) K at_6 rfl rfl ?_
  refine oW.iconst (v := (3 : Int32)) (pc' := 9) K at_8 (by decide) rfl ?_
  obtain ⟨v9, ev9⟩ : ∃ t_ : Int32, t_ = p4 &&& (3 : Int32) := ⟨_, rfl⟩
  refine oW.iand (pc' := 10) K at_9 ev9 rfl ?_
  have tv9 := oMaskR 3 (by decide) ev9
  rcases (oMask3 ev9) with hv9 | hv9 | hv9 | hv9
  · subst hv9
    exact own_law_1 hw p0 p1 p2 p3 p4 K
  · subst hv9
    exact own_law_2 hw p0 p1 p2 p3 p4 K
  · subst hv9
    exact own_law_3 hw p0 p1 p2 p3 p4 K
  · subst hv9
    exact own_law_4 hw p0 p1 p2 p3 p4 K
set_option maxRecDepth 65536 in
set_option maxHeartbeats 40000000 in
theorem comes_1 {Post : Tables → Env → Array Value → State → Outcome → State → Prop} (hpost : ∀ tb e args s v u, (limb_1_1.after args s (.returned v) u = true ∧ limb_1_2.after args s (.returned v) u = true ∧ True) → FrameEnd s (.returned v) u (Jvm.fieldLocs frame_1_writes args s ++ Jvm.arrayLocs frame_1_arrays args s ++ Jvm.staticLocs frame_1_statics s) 24 128 → Post tb e args s (.returned v) u) :
    ArmFor flags0 classFile x code maxLocals ret World_1 tables_1 room_1 Calls_1 rest_1 Pre_1 Post := by
  intro l hfl _ _ p e ha hc hk s m args below hf hA hF happ hP
  obtain ⟨hcalls, hrest, hpre⟩ := hP
  obtain ⟨-, -, -, hnamed, -, -, -, hat⟩ := (Spec.applies_iff hf).mp happ
  obtain ⟨hg, hn⟩ := and_e (Cond.before_iff.mp (show (Jvm.Cond.and given_1 narrow_1).before args s = true from hpre))
  obtain ⟨hcount, g0⟩ := and_e hg
  obtain ⟨k0, g1⟩ := and_e g0
  obtain ⟨k1, g2⟩ := and_e g1
  obtain ⟨k2, g3⟩ := and_e g2
  obtain ⟨k3, g4⟩ := and_e g3
  obtain ⟨w0, w1, w2, w3, w4, rfl⟩ : ∃ w0 w1 w2 w3 w4 : Value, args = #[w0, w1, w2, w3, w4] := by
    have hs : args.size = 5 := by simpa [Cond.value, given_1] using hcount
    obtain ⟨L⟩ := args
    match L, hs with
    | [w0, w1, w2, w3, w4], _ => exact ⟨w0, w1, w2, w3, w4, rfl⟩
  have hw := fun d (hd : d ∈ tables_1) => atoms_spec (ws := Jvm.Cond.code x code maxLocals ret :: tables_1) hat d (List.mem_cons_of_mem _ hd)
  obtain ⟨i0, ei0⟩ := is_v k0
  obtain rfl : w0 = (.int i0) := Option.some.inj ei0
  obtain ⟨i1, ei1⟩ := is_v k1
  obtain rfl : w1 = (.int i1) := Option.some.inj ei1
  obtain ⟨i2, ei2⟩ := is_v k2
  obtain rfl : w2 = (.int i2) := Option.some.inj ei2
  obtain ⟨i3, ei3⟩ := is_v k3
  obtain rfl : w3 = (.int i3) := Option.some.inj ei3
  obtain ⟨i4, ei4⟩ := is_v g4
  obtain rfl : w4 = (.int i4) := Option.some.inj ei4
  obtain ⟨n, o, h1, h2, h3, _, L, rfl, ⟨N, _, ⟨_, rfl, rfl⟩, _⟩, hq⟩ := (own_law (l := l) (h0 := s.heap) hw i0 i1 i2 i3 i4) s.heap (oMem.start s s.heap) p e ha hc hk s m _ below hf ((Spec.applies_iff_loose hf).mp happ).1 ⟨rfl, State.Warmed39.refl s, rfl⟩ trivial
  refine ⟨n, _, h1, h2, h3, hpost _ _ _ _ _ _ ⟨Cond.after_iff.mpr rfl, Cond.after_iff.mpr (eq_i res_at (Term.int_eval (1)) rfl), trivial⟩ ⟨hq.1, hq.2.1, (hq.2.2.sift fun y hy => Or.inr (N y hy)).mono (by decide) (by decide)⟩⟩
theorem main_1_1 : Claimed_1_1 := comes_1 fun _ _ _ _ _ _ h hF => ⟨h.1, hF⟩
theorem main_1_2 : Claimed_1_2 := comes_1 fun _ _ _ _ _ _ h hF => ⟨h.2.1, hF⟩
end Jvm.Pilot.@@N@@
namespace Jvm.Pilot.@@N@@
open Jvm Jvm.ClassFile Sem Op Lib Jvm.Free Jvm.Stand Jvm.Pilot.@@N@@.Jvm.D
/-! MADE BY PROGRAM (witnessworld.py) out of the Statement's table words and the real class files: 12 classes; the members and pool entries that the words name. The judged class is class 1, her method 2. -/
namespace start1
open Jvm.ClassFile
def u (s : String) : CpInfo := .utf8 (stringToUtf16 s)
/-- a pool by its gaps: so many unusable entries, then the entry; so many at the end -/
def gap : Nat → List CpInfo → List CpInfo
  | 0, r => r
  | n + 1, r => .unusable :: gap n r
def poolList (es : List (Nat × CpInfo)) (last : Nat) : List CpInfo := es.foldr (fun e r => gap e.1 (e.2 :: r)) (gap last [])
def pool (es : List (Nat × CpInfo)) (last : Nat) : Array CpInfo := ⟨poolList es last⟩
def fileOf (pool : Array CpInfo) (this : Nat) (attrs : Array Attribute := #[]) (ms : Array MethodInfo := #[]) (fl : Nat := 33) (sup : Nat := 0) (ifs : Array Nat := #[]) (fds : Array FieldInfo := #[]) : ClassFile where
  minorVersion := 0
  majorVersion := 65
  constantPool := pool
  accessFlags := fl
  thisClass := this
  superClass := sup
  interfaces := ifs
  fields := fds
  methods := ms
  attributes := attrs
def plain (name : String) (sup : Option ClassId) : Class where
  name := name
  kind := .ordinary
  loader := none
  accessFlags := 33
  super := sup
  interfaces := #[]
  cf := none
  fields := #[]
  methods := #[]
  instanceTypes := #[]
  staticTypes := #[]
  resolved := #[]
  callSites := []
  init := .initialized
  statics := none
  mirror := none

def pool0 : Array CpInfo := pool [(5, u "<init>"), (0, u "()V"), (1, .class_ 10), (1, u "java/lang/Object")] 113

def k0m0 : Method := { name := "<init>", desc := "()V", sig := { parameters := [], returnType := none }, accessFlags := 1, code := none }
/-- java/lang/Object -/
def k0 : Class := { plain "java/lang/Object" none with
  accessFlags := 33
  interfaces := #[]
  cf := some (fileOf pool0 8 #[] #[{ accessFlags := 1, nameIndex := 5, descriptorIndex := 6, attributes := #[] }] 33 0 #[] #[])
  fields := #[]
  methods := #[k0m0]
  instanceTypes := #[]
  staticTypes := #[]
  resolved := Array.replicate 124 none
  statics := none }

def pool1 : Array CpInfo := pool [(2, .class_ 4), (1, u "java/lang/Object"), (0, u "<init>"), (0, u "()V"), (0, .long 1099511627776), (1, .integer 1048575), (0, .double 4629700416936869888), (1, .methodref 13 14), (0, .class_ 15), (0, .nameAndType 16 17), (0, u "com/example/arrivage/arrivage/mechanism/VirtualValues"), (0, u "ironed"), (0, u "([D[D)[D"), (0, .long 8), (1, .methodref 21 22), (0, .class_ 23), (0, .nameAndType 24 25), (0, u "com/example/arrivage/arrivage/mechanism/VirtualValuesIronedPinLaw"), (0, u "same"), (0, u "(DJJ)Z"), (3, u "law"), (0, u "(IIIII)Z")] 4

def k1m0 : Method := { name := "<init>", desc := "()V", sig := { parameters := [], returnType := none }, accessFlags := 2, code := none }
def k1c1 : Code := { maxStack := 6, maxLocals := 6, code := method_2_code, exceptionTable := #[], attributes := #[] }
def k1m1 : Method := { name := "same", desc := "(DJJ)Z", sig := { parameters := [.double, .long, .long], returnType := some .boolean }, accessFlags := 10, code := some k1c1 }
def k1c2 : Code := { maxStack := 8, maxLocals := 61, code := code, exceptionTable := #[], attributes := #[] }
def k1m2 : Method := { name := "law", desc := "(IIIII)Z", sig := { parameters := [.int, .int, .int, .int, .int], returnType := some .boolean }, accessFlags := 9, code := some k1c2 }
/-- com/example/arrivage/arrivage/mechanism/VirtualValuesIronedPinLaw -/
def k1 : Class := { plain "com/example/arrivage/arrivage/mechanism/VirtualValuesIronedPinLaw" (some 0) with
  accessFlags := 49
  interfaces := #[]
  cf := some (fileOf pool1 21 #[] #[{ accessFlags := 2, nameIndex := 5, descriptorIndex := 6, attributes := #[] }, { accessFlags := 10, nameIndex := 24, descriptorIndex := 25, attributes := #[] }, { accessFlags := 9, nameIndex := 29, descriptorIndex := 30, attributes := #[] }] 49 2 #[] #[])
  fields := #[]
  methods := #[k1m0, k1m1, k1m2]
  instanceTypes := #[]
  staticTypes := #[]
  resolved := Array.replicate 35 none
  statics := none }

def pool2 : Array CpInfo := pool [(2, .class_ 4), (1, u "java/lang/Object"), (0, u "<init>"), (0, u "()V"), (0, .methodref 8 9), (0, .class_ 10), (0, .nameAndType 11 12), (0, u "java/util/Arrays"), (0, u "fill"), (0, u "([DIID)V"), (0, .class_ 14), (0, u "com/example/arrivage/arrivage/mechanism/VirtualValues"), (2, u "ironed"), (0, u "([D[D)[D")] 7

def k2m0 : Method := { name := "<init>", desc := "()V", sig := { parameters := [], returnType := none }, accessFlags := 2, code := none }
def k2c1 : Code := { maxStack := 8, maxLocals := 15, code := prog_19_method_2_code, exceptionTable := #[], attributes := #[] }
def k2m1 : Method := { name := "ironed", desc := "([D[D)[D", sig := { parameters := [(.array .double), (.array .double)], returnType := some (.array .double) }, accessFlags := 9, code := some k2c1 }
/-- com/example/arrivage/arrivage/mechanism/VirtualValues -/
def k2 : Class := { plain "com/example/arrivage/arrivage/mechanism/VirtualValues" (some 0) with
  accessFlags := 49
  interfaces := #[]
  cf := some (fileOf pool2 13 #[] #[{ accessFlags := 2, nameIndex := 5, descriptorIndex := 6, attributes := #[] }, { accessFlags := 9, nameIndex := 17, descriptorIndex := 18, attributes := #[] }] 49 2 #[] #[])
  fields := #[]
  methods := #[k2m0, k2m1]
  instanceTypes := #[]
  staticTypes := #[]
  resolved := Array.replicate 26 none
  statics := none }

def pool3 : Array CpInfo := pool [(2, .class_ 4), (1, u "java/lang/Object"), (0, u "<init>"), (0, u "()V"), (6, .methodref 14 15), (0, .class_ 16), (0, .nameAndType 17 18), (0, u "java/util/Arrays"), (0, u "rangeCheck"), (0, u "(III)V"), (55, .class_ 76), (1, u "java/util/Arrays$NaturalOrder"), (36, .class_ 115), (1, u "java/util/Arrays$LegacyMergeSort"), (1, u "Z"), (257, .class_ 376), (0, u "java/util/Arrays$ArrayList"), (68, u "$assertionsDisabled"), (269, u "MIN_ARRAY_SORT_GRAN"), (0, u "I"), (2, u "INSERTIONSORT_THRESHOLD"), (120, u "fill"), (14, u "([DIID)V"), (119, .class_ 976), (0, u "java/util/Arrays$ArrayItr")] 52

def k3m0 : Method := { name := "<init>", desc := "()V", sig := { parameters := [], returnType := none }, accessFlags := 2, code := none }
def k3c1 : Code := { maxStack := 4, maxLocals := 3, code := jdk_65_method_30_code, exceptionTable := #[], attributes := #[] }
def k3m1 : Method := { name := "rangeCheck", desc := "(III)V", sig := { parameters := [.int, .int, .int], returnType := none }, accessFlags := 8, code := some k3c1 }
def k3c2 : Code := { maxStack := 4, maxLocals := 6, code := jdk_65_method_114_code, exceptionTable := #[], attributes := #[] }
def k3m2 : Method := { name := "fill", desc := "([DIID)V", sig := { parameters := [(.array .double), .int, .int, .double], returnType := none }, accessFlags := 9, code := some k3c2 }
/-- java/util/Arrays -/
def k3 : Class := { plain "java/util/Arrays" (some 0) with
  accessFlags := 49
  interfaces := #[]
  cf := some (fileOf pool3 14 #[.nestMembers #[975, 375, 113, 74]] #[{ accessFlags := 2, nameIndex := 5, descriptorIndex := 6, attributes := #[] }, { accessFlags := 8, nameIndex := 17, descriptorIndex := 18, attributes := #[] }, { accessFlags := 9, nameIndex := 840, descriptorIndex := 855, attributes := #[] }] 49 2 #[] #[{ accessFlags := 26, nameIndex := 715, descriptorIndex := 716, attributes := #[] }, { accessFlags := 26, nameIndex := 719, descriptorIndex := 716, attributes := #[] }, { accessFlags := 4120, nameIndex := 445, descriptorIndex := 117, attributes := #[] }])
  fields := #[{ name := "MIN_ARRAY_SORT_GRAN", type := .int, accessFlags := 26, slot := 0, constantValue := 0 }, { name := "INSERTIONSORT_THRESHOLD", type := .int, accessFlags := 26, slot := 1, constantValue := 0 }, { name := "$assertionsDisabled", type := .boolean, accessFlags := 4120, slot := 2, constantValue := 0 }]
  methods := #[k3m0, k3m1, k3m2]
  instanceTypes := #[]
  staticTypes := #[.int, .int, .boolean]
  resolved := Array.replicate 1029 none
  statics := none }

def pool4 : Array CpInfo := pool [(1, u "java/lang/Cloneable"), (0, .class_ 1), (0, u "java/lang/Object"), (0, .class_ 3)] 3

/-- java/lang/Cloneable -/
def k4 : Class := { plain "java/lang/Cloneable" (some 0) with
  accessFlags := 1537
  interfaces := #[]
  cf := some (fileOf pool4 2 #[] #[] 1537 4 #[] #[])
  fields := #[]
  methods := #[]
  instanceTypes := #[]
  staticTypes := #[]
  resolved := Array.replicate 8 none
  statics := none }

def pool5 : Array CpInfo := pool [(1, u "java/io/Serializable"), (0, .class_ 1), (0, u "java/lang/Object"), (0, .class_ 3)] 3

/-- java/io/Serializable -/
def k5 : Class := { plain "java/io/Serializable" (some 0) with
  accessFlags := 1537
  interfaces := #[]
  cf := some (fileOf pool5 2 #[] #[] 1537 4 #[] #[])
  fields := #[]
  methods := #[]
  instanceTypes := #[]
  staticTypes := #[]
  resolved := Array.replicate 8 none
  statics := none }

/-- the primitive byte -/
def k6 : Class := { plain "byte" none with kind := .primitive 'B', accessFlags := 0x411 }
/-- [B -/
def k7 : Class := { plain "[B" (some 0) with kind := .array 6 .byte, interfaces := #[4, 5], accessFlags := 1041 }

/-- the primitive double -/
def k8 : Class := { plain "double" none with kind := .primitive 'D', accessFlags := 0x411 }
/-- [D -/
def k9 : Class := { plain "[D" (some 0) with kind := .array 8 .double, interfaces := #[4, 5], accessFlags := 1041 }

/-- the primitive int -/
def k10 : Class := { plain "int" none with kind := .primitive 'I', accessFlags := 0x411 }
/-- [I -/
def k11 : Class := { plain "[I" (some 0) with kind := .array 10 .int, interfaces := #[4, 5], accessFlags := 1041 }

def heap : Heap := #[]
def classes : Array Class := #[k0, k1, k2, k3, k4, k5, k6, k7, k8, k9, k10, k11]
def interned : List (Array UInt16 × Addr) := []
def slotsUsed : Nat := 0
def theMethod : MethodId := ⟨1, 2⟩
def args0 : Array Value := #[.int 3, .int 4, .int 5, .int 6, .int 7]
def aboutOver (below : List Frame) : State where
  vm := { classes := classes, interned := interned.toArray }
  heap := heap
  slotsUsed := slotsUsed
  threads := #[{ frames := .invoking theMethod args0 :: below }]
def below0 : List Frame := [.native { method := ⟨0, 0⟩, args := #[] }]
def about1 : State := aboutOver below0
def p0 : Program := .bare "" "" ""
def e0 : Env := launch0.env 0 0 0
theorem w_frames : about1.frames = Frame.invoking theMethod args0 :: below0 := rfl
set_option maxRecDepth 65536 in
theorem w_args : argsFit about1.vm theMethod args0 = true := by decide +kernel
set_option maxRecDepth 65536 in
theorem w_heap : heapFits about1 = true := by decide +kernel
set_option maxRecDepth 65536 in
theorem w_runnable : about1.curStatus? = some .runnable := by decide +kernel
set_option maxRecDepth 65536 in
theorem w_alone : about1.alone = true := by decide +kernel
set_option maxRecDepth 65536 in
theorem w_named : about1.methodNamed? x = some theMethod := by decide +kernel
set_option maxRecDepth 65536 in
theorem w_hears : about1.hears theMethod below0 = true := by decide +kernel
set_option maxRecDepth 65536 in
theorem w_ripe : about1.ripe theMethod args0 below0 = true := by decide +kernel
theorem w_running : about1.status = .running := rfl
set_option maxRecDepth 65536 in
theorem w_room : about1.hasRoom e0.platform room_1 = true :=
  launch0.hasRoom_least _ room_1 (by decide +kernel) (by decide +kernel) (by decide +kernel) (by decide +kernel) (by decide +kernel) (by decide +kernel)
theorem allAtoms_all (ts : List Jvm.Cond) (a : Array Jvm.Value) (st : Jvm.State) : (allAtoms ts).before a st = ts.all (fun c => c.before a st) := by
  induction ts with
  | nil => rfl
  | cons c t ih =>
    show (Jvm.Cond.and c (allAtoms t)).before a st = _
    rw [Jvm.Cond.before_and, ih, List.all_cons]
def words1 : List Jvm.Cond := Jvm.Cond.code x code maxLocals ret :: tables_1
/-- a 'code' word, met by the world's own term for the bytes: nothing is compared byte by byte -/
theorem code_word {y : MethodName} {bytes : ByteArray} {mx : Nat} {rt : Option FieldType} {a : Array Value} {s : State} {m : MethodId} {meth : Method} {c : Code} (h1 : s.methodNamed? y = some m) (h2 : s.vm.method? m = some meth) (h3 : meth.code = some c) (h4 : c.code = bytes)
    (h5 : (c.maxLocals == mx && c.exceptionTable.isEmpty && decide (c.maxStack ≤ mostOperands) && decide (meth.sig.returnType = rt) && !meth.locks && decide (parseMethodDescriptor y.desc = some meth.sig)) = true) : (Jvm.Cond.code y bytes mx rt).before a s = true := by
  simp only [Bool.and_eq_true, beq_iff_eq, Bool.not_eq_true', decide_eq_true_eq] at h5
  obtain ⟨⟨⟨⟨⟨g1, g2⟩, g3⟩, g4⟩, g5⟩, g6⟩ := h5
  simp [Cond.before, Cond.holds, Cond.value, h1, h2, h3, h4, g1, g2, g3, g4, g5, g6]
def isCode : Jvm.Cond → Bool
  | .code _ _ _ _ => true
  | _ => false
theorem all_split {L : List Jvm.Cond} {P : Jvm.Cond → Bool} (h1 : L.all (fun c => isCode c || P c) = true) (h2 : ∀ c ∈ L.filter isCode, P c = true) : L.all P = true := by
  refine List.all_eq_true.mpr fun c hc => ?_
  have h := List.all_eq_true.mp h1 c hc
  rcases Bool.eq_false_or_eq_true (isCode c) with hi | hi
  · exact h2 c (List.mem_filter.mpr ⟨hc, hi⟩)
  · simpa [hi] using h
set_option maxRecDepth 65536 in
theorem w_c0 : (Jvm.Cond.code x code maxLocals ret).before args0 about1 = true := code_word (m := ⟨1, 2⟩) (meth := k1m2) (c := k1c2) (by decide +kernel) rfl rfl rfl (by decide +kernel)
set_option maxRecDepth 65536 in
theorem w_c1 : (Jvm.Cond.code ({ cls := "com/example/arrivage/arrivage/mechanism/VirtualValues", name := "ironed", desc := "([D[D)[D" } : Jvm.MethodName) prog_19_method_2_code (15 : Nat) (Option.some (Jvm.ClassFile.FieldType.array Jvm.ClassFile.FieldType.double))).before args0 about1 = true := code_word (m := ⟨2, 1⟩) (meth := k2m1) (c := k2c1) (by decide +kernel) rfl rfl rfl (by decide +kernel)
set_option maxRecDepth 65536 in
theorem w_c2 : (Jvm.Cond.code ({ cls := "java/util/Arrays", name := "fill", desc := "([DIID)V" } : Jvm.MethodName) jdk_65_method_114_code (6 : Nat) (Option.none : Option Jvm.ClassFile.FieldType)).before args0 about1 = true := code_word (m := ⟨3, 2⟩) (meth := k3m2) (c := k3c2) (by decide +kernel) rfl rfl rfl (by decide +kernel)
set_option maxRecDepth 65536 in
theorem w_c3 : (Jvm.Cond.code ({ cls := "java/util/Arrays", name := "rangeCheck", desc := "(III)V" } : Jvm.MethodName) jdk_65_method_30_code (3 : Nat) (Option.none : Option Jvm.ClassFile.FieldType)).before args0 about1 = true := code_word (m := ⟨3, 1⟩) (meth := k3m1) (c := k3c1) (by decide +kernel) rfl rfl rfl (by decide +kernel)
set_option maxRecDepth 65536 in
theorem w_c4 : (Jvm.Cond.code ({ cls := "com/example/arrivage/arrivage/mechanism/VirtualValuesIronedPinLaw", name := "same", desc := "(DJJ)Z" } : Jvm.MethodName) method_2_code (6 : Nat) (Option.some Jvm.ClassFile.FieldType.boolean)).before args0 about1 = true := code_word (m := ⟨1, 1⟩) (meth := k1m1) (c := k1c1) (by decide +kernel) rfl rfl rfl (by decide +kernel)
def codes1 : List Jvm.Cond := [Jvm.Cond.code x code maxLocals ret, Jvm.Cond.code ({ cls := "com/example/arrivage/arrivage/mechanism/VirtualValues", name := "ironed", desc := "([D[D)[D" } : Jvm.MethodName) prog_19_method_2_code (15 : Nat) (Option.some (Jvm.ClassFile.FieldType.array Jvm.ClassFile.FieldType.double)), Jvm.Cond.code ({ cls := "java/util/Arrays", name := "fill", desc := "([DIID)V" } : Jvm.MethodName) jdk_65_method_114_code (6 : Nat) (Option.none : Option Jvm.ClassFile.FieldType), Jvm.Cond.code ({ cls := "java/util/Arrays", name := "rangeCheck", desc := "(III)V" } : Jvm.MethodName) jdk_65_method_30_code (3 : Nat) (Option.none : Option Jvm.ClassFile.FieldType), Jvm.Cond.code ({ cls := "com/example/arrivage/arrivage/mechanism/VirtualValuesIronedPinLaw", name := "same", desc := "(DJJ)Z" } : Jvm.MethodName) method_2_code (6 : Nat) (Option.some Jvm.ClassFile.FieldType.boolean)]
set_option maxRecDepth 65536 in
theorem codes_eq : words1.filter isCode = codes1 := rfl
theorem w_codes : ∀ c ∈ words1.filter isCode, c.before args0 about1 = true := by
  rw [codes_eq]
  intro c hc
  simp only [codes1, List.mem_cons, List.not_mem_nil, or_false] at hc
  rcases hc with rfl | rfl | rfl | rfl | rfl
  · exact w_c0
  · exact w_c1
  · exact w_c2
  · exact w_c3
  · exact w_c4
set_option maxRecDepth 65536 in
theorem w_t1 : words1.all (fun c => isCode c || c.before args0 about1) = true := by decide +kernel
theorem w_tables : (allAtoms (Jvm.Cond.code x code maxLocals ret :: tables_1)).before args0 about1 = true := by
  rw [allAtoms_all]
  show words1.all (fun c => c.before args0 about1) = true
  refine all_split ?_ w_codes
  rw [w_t1]
set_option maxRecDepth 65536 in
theorem w_case : (Jvm.Cond.and given_1 narrow_1).before args0 about1 = true := by decide +kernel
theorem w_applies : (headSpec (Jvm.Cond.code x code maxLocals ret :: tables_1) room_1).applies x e0.platform about1 = true :=
  (Spec.applies_iff w_frames).mpr ⟨w_running, w_runnable, w_alone, w_named, w_hears, w_ripe, w_room, w_tables⟩
theorem atStart : AtStart classFile x code maxLocals ret World_1 tables_1 room_1 Calls_1 rest_1 Pre_1 launch0 p0 e0 about1 theMethod args0 below0 :=
  ⟨lists_1, trivial, launch0.admits_env _ _ _, launch0.least_env, fairChoices_fair.cas, fairChoices_fair.clock, w_frames, w_args, w_heap, w_applies, trivial, trivial, w_case⟩
end start1
theorem witness_1 : WitnessClaimed_1 := ⟨start1.p0, start1.e0, start1.about1, start1.theMethod, start1.args0, start1.below0, start1.atStart⟩
end Jvm.Pilot.@@N@@
