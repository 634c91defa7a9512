
import JvmDerived
import JvmDerived.Pilot.@@N@@Statement
import JvmDerived.Pilot.@@N@@Code
set_option maxRecDepth 65536
set_option maxHeartbeats 40000000
set_option linter.unusedVariables false
set_option linter.unusedSimpArgs false
namespace Jvm.Pilot.@@N@@
open Jvm Jvm.ClassFile Sem Op Lib Jvm.Free Jvm.Stand Jvm.LawKit Jvm.RoadKit Bundle Jvm.Pilot.@@N@@.Jvm.D
abbrev oDsc : Type := Sum (FieldType × List Value) (String × List (String × String × String × Value))
abbrev oDs : Type := List (Addr × oDsc)
def oAt (Z : State) (h : Heap) (a : Addr) (d : oDsc) : Prop := match d with
  | .inl (ty, vs) => ∃ c : Cell, Arr Z h a c ty ∧ c.slots = vs.toArray ∧ Exa Z h a ("[" ++ ty.toString) ∧ ∀ t, ty = .array t → OvrA Z c.cls t (FieldType.array t).toString
  | .inr (C, fs) => Exa Z h a C ∧ ∀ f ∈ fs, Fld Z h a f.1 f.2.1 f.2.2.1 f.2.2.2
def oMem (Z : State) (h0 h : Heap) (ds : oDs) : Prop :=
  Ext h0 h ∧ (∀ (i j : Nat) (x y : Addr × oDsc), i ≠ j → ds[i]? = some x → ds[j]? = some y → x.1 ≠ y.1) ∧ ∀ (i : Nat) (x : Addr × oDsc), ds[i]? = some x → h0.size ≤ x.1 ∧ oAt Z h x.1 x.2
theorem oExt_refl (h : Heap) : Ext h h := ⟨Nat.le_refl _, fun _ _ q => q⟩
theorem oMem.start (Z : State) (h : Heap) : oMem Z h h [] := ⟨oExt_refl h, fun _ _ _ _ _ q => by simp at q, fun _ _ q => by simp at q⟩
theorem oAt.lt {Z : State} {h : Heap} {a : Addr} {d : oDsc} (A : oAt Z h a d) : a < h.size := by
  rcases d with ⟨ty, vs⟩ | ⟨C, fs⟩
  · obtain ⟨c, A, -⟩ := A; exact A.lt
  · exact A.1.lt
theorem oAt.ext {Z : State} {h h' : Heap} {a : Addr} {d : oDsc} (A : oAt Z h a d) (E : Ext h h') : oAt Z h' a d := by
  rcases d with ⟨ty, vs⟩ | ⟨C, fs⟩
  · obtain ⟨c, A, q1, q2, q3⟩ := A; exact ⟨c, A.ext E, q1, q2.ext E, q3⟩
  · exact ⟨A.1.ext E, fun f hf => (A.2 f hf).ext E⟩
theorem oAt.other {Z : State} {h h' : Heap} {a b : Addr} {sl : Nat} {v : Value} {d : oDsc} (A : oAt Z h b d) (W : Wr h h' a sl v) (q : b ≠ a) : oAt Z h' b d := by
  rcases d with ⟨ty, vs⟩ | ⟨C, fs⟩
  · obtain ⟨c, A, r1, r2, r3⟩ := A; exact ⟨c, A.other W q, r1, r2.wr W, r3⟩
  · exact ⟨A.1.wr W, fun f hf => (A.2 f hf).other W (Or.inl q)⟩
theorem oMem.push {Z : State} {h0 h h' : Heap} {ds : oDs} {d : oDsc} (M : oMem Z h0 h ds) (E : Ext h h') (A : oAt Z h' h.size d) : oMem Z h0 h' (ds ++ [(h.size, d)]) := by
  obtain ⟨M1, M2, M3⟩ := M
  have L : ∀ (i : Nat) (x : Addr × oDsc), (ds ++ [(h.size, d)])[i]? = some x → ds[i]? = some x ∨ (i = ds.length ∧ x = (h.size, d)) := fun i x hx => by
    rw [List.getElem?_append] at hx
    split at hx
    · exact Or.inl hx
    · rename_i ni
      have hil : i - ds.length = 0 := by
        rcases Nat.eq_zero_or_pos (i - ds.length) with q | q
        · exact q
        · rw [List.getElem?_eq_none (by simp; omega)] at hx; cases hx
      rw [hil] at hx; cases hx
      exact Or.inr ⟨by omega, rfl⟩
  refine ⟨⟨Nat.le_trans M1.1 E.1, fun a c q => E.2 a c (M1.2 a c q)⟩, fun i j x y hij hi hj => ?_, fun i x hi => ?_⟩
  · rcases L i x hi with a1 | ⟨a1, a2⟩ <;> rcases L j y hj with b1 | ⟨b1, b2⟩
    · exact M2 i j x y hij a1 b1
    · subst b2; exact Nat.ne_of_lt (M3 i x a1).2.lt
    · subst a2; exact (Nat.ne_of_lt (M3 j y b1).2.lt).symm
    · exact absurd (a1.trans b1.symm) hij
  · rcases L i x hi with a1 | ⟨a1, a2⟩
    · exact ⟨(M3 i x a1).1, (M3 i x a1).2.ext E⟩
    · subst a2; exact ⟨M1.1, A⟩
theorem oMem.put {Z : State} {h0 h h' : Heap} {ds : oDs} {i : Nat} {a : Addr} {d d' : oDsc} {sl : Nat} {v : Value} (M : oMem Z h0 h ds) (hi : ds[i]? = some (a, d)) (W : Wr h h' a sl v) (A : oAt Z h' a d') : oMem Z h0 h' (ds.set i (a, d')) := by
  obtain ⟨M1, M2, M3⟩ := M
  have ha := (M3 i _ hi).1
  have hlt : i < ds.length := (List.getElem?_eq_some_iff.mp hi).1
  have fst : ∀ (j : Nat) (x : Addr × oDsc), (ds.set i (a, d'))[j]? = some x → ∃ y : Addr × oDsc, ds[j]? = some y ∧ y.1 = x.1 := fun j x hx => by
    rw [List.getElem?_set] at hx
    split at hx
    · rename_i e; subst e; cases hx; exact ⟨_, hi, rfl⟩
    · exact ⟨x, hx, rfl⟩
  refine ⟨⟨Nat.le_trans M1.1 (Nat.le_of_eq W.size.symm), fun x c q => ?_⟩, fun j k x y hjk hj hk => ?_, fun j x hx => ?_⟩
  · obtain ⟨c', q1, -, -, -, q5, -⟩ := wr_at W (M1.2 x c q)
    have : x ≠ a := Nat.ne_of_lt (Nat.lt_of_lt_of_le (Array.getElem?_eq_some_iff.mp q).1 ha)
    rw [← q5 this]; exact q1
  · obtain ⟨x', hx', ex⟩ := fst j x hj
    obtain ⟨y', hy', ey⟩ := fst k y hk
    rw [← ex, ← ey]; exact M2 j k x' y' hjk hx' hy'
  · rw [List.getElem?_set] at hx
    split at hx
    · rename_i e; subst e; cases hx; exact ⟨ha, A⟩
    · rename_i e
      exact ⟨(M3 j x hx).1, (M3 j x hx).2.other W (M2 j i x _ (fun q => e q.symm) hx hi)⟩
theorem oMem.pick {Z : State} {h0 h : Heap} {ds ds' : oDs} (idx : List Nat) (hn : idx.Nodup) (e : ds'.map some = idx.map fun k => ds[k]?) (M : oMem Z h0 h ds) : oMem Z h0 h ds' := by
  have L : ∀ (i : Nat) (x : Addr × oDsc), ds'[i]? = some x → ∃ k, idx[i]? = some k ∧ ds[k]? = some x := fun i x hx => by
    have h1 : (ds'.map some)[i]? = some (some x) := by rw [List.getElem?_map, hx]; rfl
    rw [e, List.getElem?_map] at h1
    cases hk : idx[i]? with
    | none => rw [hk] at h1; cases h1
    | some k => rw [hk] at h1; exact ⟨k, rfl, Option.some.inj h1⟩
  refine ⟨M.1, fun i j x y hij hi hj => ?_, fun i x hi => ?_⟩
  · obtain ⟨k, k1, k2⟩ := L i x hi
    obtain ⟨l, l1, l2⟩ := L j y hj
    refine M.2.1 k l x y (fun q => hij ?_) k2 l2
    subst q
    exact (List.getElem?_inj (List.getElem?_eq_some_iff.mp k1).1 hn).mp (k1.trans l1.symm)
  · obtain ⟨k, -, k2⟩ := L i x hi
    exact M.2.2 k x k2
def oApart (Z : State) (fs : List (String × String × String × Value)) : Prop :=
  ∀ (i j : Nat) (f g : String × String × String × Value), i ≠ j → fs[i]? = some f → fs[j]? = some g → Jvm.RoadKit.slotOf Z f.1 f.2.1 f.2.2.1 ≠ Jvm.RoadKit.slotOf Z g.1 g.2.1 g.2.2.1
theorem oApart.of {Z : State} {a0 : Array Value} {C : String} {fs : List (String × String × String × Value)} (hL : ∀ f ∈ fs, Laid Z a0 C f.1 f.2.1 f.2.2.1 ∧ ∃ t, parseFieldDescriptor f.2.2.1 = some t) (hn : (fs.map fun f => f.2.1).Nodup) : oApart Z fs := fun i j f g hij hi hj => by
  obtain ⟨L1, t1, p1⟩ := hL f (List.mem_of_getElem? hi)
  obtain ⟨L2, t2, p2⟩ := hL g (List.mem_of_getElem? hj)
  refine slot_ne L1 L2 (fun q => hij ?_) p1 p2
  have e1 : (fs.map fun f => f.2.1)[i]? = some f.2.1 := by rw [List.getElem?_map, hi]; rfl
  have e2 : (fs.map fun f => f.2.1)[j]? = some g.2.1 := by rw [List.getElem?_map, hj]; rfl
  rw [q] at e1
  have l1 := (List.getElem?_eq_some_iff.mp e1).1
  exact (List.getElem?_inj l1 hn).mp (e1.trans e2.symm)
def oK (p : Program) (s : State) (m : MethodId) (meth : Method) (c : Code) (Z : State) (own : String) (by0 : ByteArray) (ml : Nat) (ret : Option FieldType) (nm : String) : Prop :=
  (p.tables.exec = Jvm.exec ∧ Z.Warmed39 s.vm ∧ c.code = by0 ∧ c.maxLocals = ml) ∧ s.vm.findClass own = some m.cls ∧ meth.sig.returnType = ret ∧ meth.locks = false ∧ meth.name = nm
def oIn (p : Program) (l : Launch) (e : Env) (R : Room) (s : State) (m : MethodId) (args : Array Value) (below : List Frame) (meth : Method) (c : Code) (Z : State) (h0 : Heap) (T : State) (ds : oDs) (cells slots : Nat) : Prop :=
  ∃ locs, Stand p l e R s m args below meth c T locs cells slots ∧ Fr h0.size locs ∧ oMem Z h0 T.heap ds
def oEnds (p : Program) (e : Env) (R : Room) (s : State) (below : List Frame) (Z : State) (h0 : Heap) (P : Option Value → oDs → Prop) (T : State) (g : JFrame) : Prop :=
  ∃ s₂ o, Steps p.tables e below (T.setTop g) s₂ ∧ s₂.status = .running ∧ Ended s₂ below o ∧ ∃ v L, o = .returned v ∧ (Fr h0.size L ∧ ∃ ds', P v ds' ∧ oMem Z h0 s₂.heap ds') ∧ FrameEnd s o s₂ L R.cells R.slots
def oW (p : Program) (l : Launch) (e : Env) (R : Room) (s : State) (m : MethodId) (args : Array Value) (below : List Frame) (meth : Method) (c : Code) (Z : State) (h0 : Heap) (P : Option Value → oDs → Prop) (ds : oDs) (cells slots pc : Nat) (Ls : Array Slot) (S : List Value) : Prop :=
  ∀ T, oIn p l e R s m args below meth c Z h0 T ds cells slots → oEnds p e R s below Z h0 P T (mkF m pc Ls S)
def oCtr (l : Launch) (Z : State) (h0 : Heap) (ws : List Jvm.Cond) (y : MethodName) (by0 : ByteArray) (ml : Nat) (ret : Option FieldType) (rm : Room) (as' : Array Value) (ds : oDs) (P : Option Value → oDs → Prop) : Prop :=
  ∀ h, oMem Z h0 h ds → MetFree l y (head1 (Jvm.Cond.code y by0 ml ret :: ws) rm) (fun a U => a = as' ∧ Z.Warmed39 U.vm ∧ U.heap = h) (fun _ _ _ _ _ => True)
    (fun _ U o U' => ∃ v L, o = .returned v ∧ (Fr h0.size L ∧ ∃ ds', P v ds' ∧ oMem Z h0 U'.heap ds') ∧ FrameEnd U o U' L rm.cells rm.slots)
def oVal (P2 : Value → oDs → Prop) (v : Option Value) (ds : oDs) : Prop := ∃ w, v = some w ∧ P2 w ds
def oVoid (P3 : oDs → Prop) (v : Option Value) (ds : oDs) : Prop := v = none ∧ P3 ds
theorem oCtr.of {l : Launch} {Z : State} {h0 : Heap} {ws : List Jvm.Cond} {y : MethodName} {by0 : ByteArray} {ml : Nat} {ret : Option FieldType} {rm : Room} {as' : Array Value} {ds : oDs} {P : Option Value → oDs → Prop} {Ls : Array Slot}
    (hpl : plainFor y = true) (hef : ∀ m, entryFrame m as' ml = mkF m 0 Ls [])
    (hb : ∀ p e s m below meth c, oK p s m meth c Z y.cls by0 ml ret y.name → oW p l e rm s m as' below meth c Z h0 P ds 0 0 0 Ls []) : oCtr l Z h0 ws y by0 ml ret rm as' ds P := by
  intro h M
  refine MetFree.of_bodySF hpl hisR ?_
  intro p e s m args below meth c s₁ Bd hml0 hP hK
  obtain ⟨rfl, hZ, hh⟩ := hP
  have e0 : s₁.heap = h := by rw [← hh, Bd.state]; rfl
  have K : oK p s m meth c Z y.cls by0 ml ret y.name := ⟨⟨Bd.exec, hZ, Bd.bytes, hml0⟩, findClass_of_methodNamed Bd.named, Bd.returns, Bd.notSynchronized, (name_of_methodNamed Bd.named Bd.method).1⟩
  obtain ⟨s₂, o, h1, h2⟩ := hb p e s m below meth c K s₁ ⟨[], Stand.of_body Bd, Fr.nil _, by rw [e0]; exact M⟩
  exact ⟨s₂, o, castTop (hef m) h1, h2⟩
section Steps
variable {p : Program} {l : Launch} {e : Env} {R : Room} {s : State} {m : MethodId} {args : Array Value} {below : List Frame} {meth : Method} {c : Code} {Z : State} {h0 : Heap} {own nm : String} {by0 : ByteArray} {ml : Nat} {ret : Option FieldType} {P : Option Value → oDs → Prop} {ds ds' : oDs} {cells slots pc pc' : Nat} {Ls Ls' : Array Slot} {S S' : List Value} {a0 : Array Value}
theorem oW.pure (st : ∀ T locs, Stand p l e R s m args below meth c T locs cells slots → ∀ t, Steps p.tables e below (T.setTop (mkF m pc' Ls' S')) t → Steps p.tables e below (T.setTop (mkF m pc Ls S)) t) (hr : oW p l e R s m args below meth c Z h0 P ds cells slots pc' Ls' S') : oW p l e R s m args below meth c Z h0 P ds cells slots pc Ls S := by
  rintro T ⟨locs, X, N, M⟩
  obtain ⟨s₂, o, h1, h2⟩ := hr T ⟨locs, X, N, M⟩
  exact ⟨s₂, o, st T locs X _ h1, h2⟩
theorem oW.ends {T T' : State} {g g' : JFrame} (st : ∀ t, Steps p.tables e below (T'.setTop g') t → Steps p.tables e below (T.setTop g) t) (hr : oEnds p e R s below Z h0 P T' g') : oEnds p e R s below Z h0 P T g := by
  obtain ⟨s₂, o, h1, h2⟩ := hr
  exact ⟨s₂, o, st _ h1, h2⟩
theorem oW.join {α : Type} {F : α → Prop} {pcj : Nat} {Lf : α → Array Slot} {Sf : α → List Value} {dsf : α → oDs} (h1 : (∀ z, F z → oW p l e R s m args below meth c Z h0 P (dsf z) cells slots pcj (Lf z) (Sf z)) → oW p l e R s m args below meth c Z h0 P ds cells slots pc Ls S) (h2 : ∀ z, F z → oW p l e R s m args below meth c Z h0 P (dsf z) cells slots pcj (Lf z) (Sf z)) : oW p l e R s m args below meth c Z h0 P ds cells slots pc Ls S := h1 h2
theorem Yb (pc' : Nat) {k : Nat} {v : Int32} (K : oK p s m meth c Z own by0 ml ret nm) (hd : decode by0 pc=.ok (.iload k,2)) (hr : oW p l e R s m args below meth c Z h0 P ds cells slots pc' Ls (.int v::S)) (hl : Ls[k]?=some (.val (.int v)):=by exact rfl) (hp : pc + 2=pc':=by exact rfl) : oW p l e R s m args below meth c Z h0 P ds cells slots pc Ls (S):=by
  subst hp
  exact oW.pure (fun T locs X t k=>XS.iload X.here K.1.1 rfl (hb K.1.2.2.1 hd) hl k) hr
theorem Ye (pc' : Nat) {k : Fin 4} {v : Int32} (K : oK p s m meth c Z own by0 ml ret nm) (hd : decode by0 pc=.ok (.iload_n k,1)) (hr : oW p l e R s m args below meth c Z h0 P ds cells slots pc' Ls (.int v::S)) (hl : Ls[k.val]?=some (.val (.int v)):=by exact rfl) (hp : pc + 1=pc':=by exact rfl) : oW p l e R s m args below meth c Z h0 P ds cells slots pc Ls (S):=by
  subst hp
  exact oW.pure (fun T locs X t k=>XS.iloadN X.here K.1.1 rfl (hb K.1.2.2.1 hd) hl k) hr
theorem oW.istore (K : oK p s m meth c Z own by0 ml ret nm) {k : Nat} {v : Int32} (hd : decode by0 pc = .ok (.istore k, 2)) (hl : storeLocals Ls k (.int v) = some Ls') (hp : pc + 2 = pc') (hr : oW p l e R s m args below meth c Z h0 P ds cells slots pc' Ls' (S)) : oW p l e R s m args below meth c Z h0 P ds cells slots pc Ls (.int v :: S) := by
  subst hp
  exact oW.pure (fun T locs X t k => XS.istore X.here K.1.1 rfl (hb K.1.2.2.1 hd) rfl hl k) hr
theorem Yz (pc' : Nat) {k : Fin 4} {v : Int32} (K : oK p s m meth c Z own by0 ml ret nm) (hd : decode by0 pc=.ok (.istore_n k,1)) (hl : storeLocals Ls k.val (.int v)=some Ls') (hr : oW p l e R s m args below meth c Z h0 P ds cells slots pc' Ls' (S)) (hp : pc + 1=pc':=by exact rfl) : oW p l e R s m args below meth c Z h0 P ds cells slots pc Ls (.int v::S):=by
  subst hp
  exact oW.pure (fun T locs X t k=>XS.istoreN X.here K.1.1 rfl (hb K.1.2.2.1 hd) rfl hl k) hr
theorem Yo (pc' : Nat) {k : Nat} {v : Int64} (K : oK p s m meth c Z own by0 ml ret nm) (hd : decode by0 pc=.ok (.lload k,2)) (hr : oW p l e R s m args below meth c Z h0 P ds cells slots pc' Ls (.long v::S)) (hl : Ls[k]?=some (.val (.long v)):=by exact rfl) (hp : pc + 2=pc':=by exact rfl) : oW p l e R s m args below meth c Z h0 P ds cells slots pc Ls (S):=by
  subst hp
  exact oW.pure (fun T locs X t k=>XS.lload X.here K.1.1 rfl (hb K.1.2.2.1 hd) hl k) hr
theorem G6 (pc' : Nat) {k : Fin 4} {v : Int64} (K : oK p s m meth c Z own by0 ml ret nm) (hd : decode by0 pc=.ok (.lload_n k,1)) (hr : oW p l e R s m args below meth c Z h0 P ds cells slots pc' Ls (.long v::S)) (hl : Ls[k.val]?=some (.val (.long v)):=by exact rfl) (hp : pc + 1=pc':=by exact rfl) : oW p l e R s m args below meth c Z h0 P ds cells slots pc Ls (S):=by
  subst hp
  exact oW.pure (fun T locs X t k=>XS.lloadN X.here K.1.1 rfl (hb K.1.2.2.1 hd) hl k) hr
theorem oW.lstore (K : oK p s m meth c Z own by0 ml ret nm) {k : Nat} {v : Int64} (hd : decode by0 pc = .ok (.lstore k, 2)) (hl : storeLocals Ls k (.long v) = some Ls') (hp : pc + 2 = pc') (hr : oW p l e R s m args below meth c Z h0 P ds cells slots pc' Ls' (S)) : oW p l e R s m args below meth c Z h0 P ds cells slots pc Ls (.long v :: S) := by
  subst hp
  exact oW.pure (fun T locs X t k => XS.lstore X.here K.1.1 rfl (hb K.1.2.2.1 hd) rfl hl k) hr
theorem Gb (pc' : Nat) {k : Nat} {v : UInt64} (K : oK p s m meth c Z own by0 ml ret nm) (hd : decode by0 pc=.ok (.dload k,2)) (hr : oW p l e R s m args below meth c Z h0 P ds cells slots pc' Ls (.double v::S)) (hl : Ls[k]?=some (.val (.double v)):=by exact rfl) (hp : pc + 2=pc':=by exact rfl) : oW p l e R s m args below meth c Z h0 P ds cells slots pc Ls (S):=by
  subst hp
  exact oW.pure (fun T locs X t k=>XS.dload X.here K.1.1 rfl (hb K.1.2.2.1 hd) hl k) hr
theorem Y1 (pc' : Nat) {k : Fin 4} {v : UInt64} (K : oK p s m meth c Z own by0 ml ret nm) (hd : decode by0 pc=.ok (.dload_n k,1)) (hr : oW p l e R s m args below meth c Z h0 P ds cells slots pc' Ls (.double v::S)) (hl : Ls[k.val]?=some (.val (.double v)):=by exact rfl) (hp : pc + 1=pc':=by exact rfl) : oW p l e R s m args below meth c Z h0 P ds cells slots pc Ls (S):=by
  subst hp
  exact oW.pure (fun T locs X t k=>XS.dloadN X.here K.1.1 rfl (hb K.1.2.2.1 hd) hl k) hr
theorem Hr (Ls' : Array Slot) (pc' : Nat) {k : Nat} {v : UInt64} (K : oK p s m meth c Z own by0 ml ret nm) (hd : decode by0 pc=.ok (.dstore k,2)) (hr : oW p l e R s m args below meth c Z h0 P ds cells slots pc' Ls' (S)) (hl : storeLocals Ls k (.double v)=some Ls':=by exact rfl) (hp : pc + 2=pc':=by exact rfl) : oW p l e R s m args below meth c Z h0 P ds cells slots pc Ls (.double v::S):=by
  subst hp
  exact oW.pure (fun T locs X t k=>XS.dstore X.here K.1.1 rfl (hb K.1.2.2.1 hd) rfl hl k) hr
theorem Yh (pc' : Nat) {k : Nat} {v : Value} (K : oK p s m meth c Z own by0 ml ret nm) (hd : decode by0 pc=.ok (.aload k,2)) (hr : oW p l e R s m args below meth c Z h0 P ds cells slots pc' Ls (v::S)) (hl : Ls[k]?=some (.val v):=by exact rfl) (hv : v.isRef=true:=by exact rfl) (hp : pc + 2=pc':=by exact rfl) : oW p l e R s m args below meth c Z h0 P ds cells slots pc Ls (S):=by
  subst hp
  exact oW.pure (fun T locs X t k=>XS.aload X.here K.1.1 rfl (hb K.1.2.2.1 hd) hl hv k) hr
theorem Ya (pc' : Nat) {k : Fin 4} {v : Value} (K : oK p s m meth c Z own by0 ml ret nm) (hd : decode by0 pc=.ok (.aload_n k,1)) (hr : oW p l e R s m args below meth c Z h0 P ds cells slots pc' Ls (v::S)) (hl : Ls[k.val]?=some (.val v):=by exact rfl) (hv : v.isRef=true:=by exact rfl) (hp : pc + 1=pc':=by exact rfl) : oW p l e R s m args below meth c Z h0 P ds cells slots pc Ls (S):=by
  subst hp
  exact oW.pure (fun T locs X t k=>XS.aloadN X.here K.1.1 rfl (hb K.1.2.2.1 hd) hl hv k) hr
theorem Hc (pc' : Nat) {k : Nat} {v : Value} (K : oK p s m meth c Z own by0 ml ret nm) (hd : decode by0 pc=.ok (.astore k,2)) (hl : storeLocals Ls k v=some Ls') (hr : oW p l e R s m args below meth c Z h0 P ds cells slots pc' Ls' (S)) (hv : v.isRef=true:=by exact rfl) (hp : pc + 2=pc':=by exact rfl) : oW p l e R s m args below meth c Z h0 P ds cells slots pc Ls (v::S):=by
  subst hp
  exact oW.pure (fun T locs X t k=>XS.astore X.here K.1.1 rfl (hb K.1.2.2.1 hd) rfl hv hl k) hr
theorem Gl (pc' : Nat) {k : Fin 4} {v : Value} (K : oK p s m meth c Z own by0 ml ret nm) (hd : decode by0 pc=.ok (.astore_n k,1)) (hl : storeLocals Ls k.val v=some Ls') (hr : oW p l e R s m args below meth c Z h0 P ds cells slots pc' Ls' (S)) (hv : v.isRef=true:=by exact rfl) (hp : pc + 1=pc':=by exact rfl) : oW p l e R s m args below meth c Z h0 P ds cells slots pc Ls (v::S):=by
  subst hp
  exact oW.pure (fun T locs X t k=>XS.astoreN X.here K.1.1 rfl (hb K.1.2.2.1 hd) rfl hv hl k) hr
theorem Hj (pc' : Nat) (K : oK p s m meth c Z own by0 ml ret nm) (hd : decode by0 pc=.ok (.aconst_null,1)) (hr : oW p l e R s m args below meth c Z h0 P ds cells slots pc' Ls (.null::S)) (hp : pc + 1=pc':=by exact rfl) : oW p l e R s m args below meth c Z h0 P ds cells slots pc Ls (S):=by
  subst hp
  exact oW.pure (fun T locs X t k=>XS.aconstNull X.here K.1.1 rfl (hb K.1.2.2.1 hd) k) hr
theorem Yd (v : Int32) (pc' : Nat) {i : Int} (K : oK p s m meth c Z own by0 ml ret nm) (hd : decode by0 pc=.ok (.iconst i,1)) (hr : oW p l e R s m args below meth c Z h0 P ds cells slots pc' Ls (.int v::S)) (hv : v=Int32.ofInt i:=by decide) (hp : pc + 1=pc':=by exact rfl) : oW p l e R s m args below meth c Z h0 P ds cells slots pc Ls (S):=by
  subst hp hv
  exact oW.pure (fun T locs X t k=>XS.iconst X.here K.1.1 rfl (hb K.1.2.2.1 hd) k) hr
theorem Gt (v : Int32) (pc' : Nat) {i : Int} (K : oK p s m meth c Z own by0 ml ret nm) (hd : decode by0 pc=.ok (.bipush i,2)) (hr : oW p l e R s m args below meth c Z h0 P ds cells slots pc' Ls (.int v::S)) (hv : v=(Int8.ofInt i).toInt32:=by decide) (hp : pc + 2=pc':=by exact rfl) : oW p l e R s m args below meth c Z h0 P ds cells slots pc Ls (S):=by
  subst hp hv
  exact oW.pure (fun T locs X t k=>XS.bipush X.here K.1.1 rfl (hb K.1.2.2.1 hd) k) hr
theorem oW.lconst (K : oK p s m meth c Z own by0 ml ret nm) {k : Fin 2} {v : Int64} (hd : decode by0 pc = .ok (.lconst k, 1)) (hv : v = Int64.ofNat k.val) (hp : pc + 1 = pc') (hr : oW p l e R s m args below meth c Z h0 P ds cells slots pc' Ls (.long v :: S)) : oW p l e R s m args below meth c Z h0 P ds cells slots pc Ls (S) := by
  subst hp hv
  exact oW.pure (fun T locs X t k => XT.lconst X.here K.1.1 rfl (hb K.1.2.2.1 hd) k) hr
theorem oW.dconst0 (K : oK p s m meth c Z own by0 ml ret nm)  (hd : decode by0 pc = .ok (.dconst 0, 1))  (hp : pc + 1 = pc') (hr : oW p l e R s m args below meth c Z h0 P ds cells slots pc' Ls (.double 0 :: S)) : oW p l e R s m args below meth c Z h0 P ds cells slots pc Ls (S) := by
  subst hp
  exact oW.pure (fun T locs X t k => XS.dconst0 X.here K.1.1 rfl (hb K.1.2.2.1 hd) rfl k) hr
theorem oW.iadd (K : oK p s m meth c Z own by0 ml ret nm) {x y v : Int32} (hd : decode by0 pc = .ok (.iadd, 1)) (hv : v = x + y) (hp : pc + 1 = pc') (hr : oW p l e R s m args below meth c Z h0 P ds cells slots pc' Ls (.int v :: S)) : oW p l e R s m args below meth c Z h0 P ds cells slots pc Ls (.int y :: .int x :: S) := by
  subst hp hv
  exact oW.pure (fun T locs X t k => XS.iadd X.here K.1.1 rfl (hb K.1.2.2.1 hd) rfl k) hr
theorem Gv (pc' : Nat) {x y v : Int64} (K : oK p s m meth c Z own by0 ml ret nm) (hd : decode by0 pc=.ok (.ladd,1)) (hv : v=x + y) (hr : oW p l e R s m args below meth c Z h0 P ds cells slots pc' Ls (.long v::S)) (hp : pc + 1=pc':=by exact rfl) : oW p l e R s m args below meth c Z h0 P ds cells slots pc Ls (.long y::.long x::S):=by
  subst hp hv
  exact oW.pure (fun T locs X t k=>XT.ladd X.here K.1.1 rfl (hb K.1.2.2.1 hd) rfl k) hr
theorem oW.isub (K : oK p s m meth c Z own by0 ml ret nm) {x y v : Int32} (hd : decode by0 pc = .ok (.isub, 1)) (hv : v = x - y) (hp : pc + 1 = pc') (hr : oW p l e R s m args below meth c Z h0 P ds cells slots pc' Ls (.int v :: S)) : oW p l e R s m args below meth c Z h0 P ds cells slots pc Ls (.int y :: .int x :: S) := by
  subst hp hv
  exact oW.pure (fun T locs X t k => XS.isub X.here K.1.1 rfl (hb K.1.2.2.1 hd) rfl k) hr
theorem oW.lsub (K : oK p s m meth c Z own by0 ml ret nm) {x y v : Int64} (hd : decode by0 pc = .ok (.lsub, 1)) (hv : v = x - y) (hp : pc + 1 = pc') (hr : oW p l e R s m args below meth c Z h0 P ds cells slots pc' Ls (.long v :: S)) : oW p l e R s m args below meth c Z h0 P ds cells slots pc Ls (.long y :: .long x :: S) := by
  subst hp hv
  exact oW.pure (fun T locs X t k => XT.lsub X.here K.1.1 rfl (hb K.1.2.2.1 hd) rfl k) hr
theorem oW.imul (K : oK p s m meth c Z own by0 ml ret nm) {x y v : Int32} (hd : decode by0 pc = .ok (.imul, 1)) (hv : v = x * y) (hp : pc + 1 = pc') (hr : oW p l e R s m args below meth c Z h0 P ds cells slots pc' Ls (.int v :: S)) : oW p l e R s m args below meth c Z h0 P ds cells slots pc Ls (.int y :: .int x :: S) := by
  subst hp hv
  exact oW.pure (fun T locs X t k => XS.imul X.here K.1.1 rfl (hb K.1.2.2.1 hd) rfl k) hr
theorem Gp (pc' : Nat) {x y v : Int32} (K : oK p s m meth c Z own by0 ml ret nm) (hd : decode by0 pc=.ok (.iand,1)) (hv : v=x &&& y) (hr : oW p l e R s m args below meth c Z h0 P ds cells slots pc' Ls (.int v::S)) (hp : pc + 1=pc':=by exact rfl) : oW p l e R s m args below meth c Z h0 P ds cells slots pc Ls (.int y::.int x::S):=by
  subst hp hv
  exact oW.pure (fun T locs X t k=>XS.iand X.here K.1.1 rfl (hb K.1.2.2.1 hd) rfl k) hr
theorem oW.land (K : oK p s m meth c Z own by0 ml ret nm) {x y v : Int64} (hd : decode by0 pc = .ok (.land, 1)) (hv : v = x &&& y) (hp : pc + 1 = pc') (hr : oW p l e R s m args below meth c Z h0 P ds cells slots pc' Ls (.long v :: S)) : oW p l e R s m args below meth c Z h0 P ds cells slots pc Ls (.long y :: .long x :: S) := by
  subst hp hv
  exact oW.pure (fun T locs X t k => XT.land X.here K.1.1 rfl (hb K.1.2.2.1 hd) rfl k) hr
theorem Hx (pc' : Nat) {x y v : Int64} (K : oK p s m meth c Z own by0 ml ret nm) (hd : decode by0 pc=.ok (.lor,1)) (hv : v=x ||| y) (hr : oW p l e R s m args below meth c Z h0 P ds cells slots pc' Ls (.long v::S)) (hp : pc + 1=pc':=by exact rfl) : oW p l e R s m args below meth c Z h0 P ds cells slots pc Ls (.long y::.long x::S):=by
  subst hp hv
  exact oW.pure (fun T locs X t k=>XT.lor X.here K.1.1 rfl (hb K.1.2.2.1 hd) rfl k) hr
theorem Hy (pc' : Nat) {x y v : Int32} (K : oK p s m meth c Z own by0 ml ret nm) (hd : decode by0 pc=.ok (.irem,1)) (hv : v=x % y) (hr : oW p l e R s m args below meth c Z h0 P ds cells slots pc' Ls (.int v::S)) (hy : y ≠ 0:=by decide) (hp : pc + 1=pc':=by exact rfl) : oW p l e R s m args below meth c Z h0 P ds cells slots pc Ls (.int y::.int x::S):=by
  subst hp hv
  exact oW.pure (fun T locs X t k=>iremM X K.1.1 rfl (hb K.1.2.2.1 hd) rfl hy k) hr
theorem oW.ineg (K : oK p s m meth c Z own by0 ml ret nm) {x v : Int32} (hd : decode by0 pc = .ok (.ineg, 1)) (hv : v = -x) (hp : pc + 1 = pc') (hr : oW p l e R s m args below meth c Z h0 P ds cells slots pc' Ls (.int v :: S)) : oW p l e R s m args below meth c Z h0 P ds cells slots pc Ls (.int x :: S) := by
  subst hp hv
  exact oW.pure (fun T locs X t k => XS.ineg X.here K.1.1 rfl (hb K.1.2.2.1 hd) rfl k) hr
theorem oW.iushr (K : oK p s m meth c Z own by0 ml ret nm) {x y v : Int32} (hd : decode by0 pc = .ok (.iushr, 1)) (hv : v = XT.ushr x y) (hp : pc + 1 = pc') (hr : oW p l e R s m args below meth c Z h0 P ds cells slots pc' Ls (.int v :: S)) : oW p l e R s m args below meth c Z h0 P ds cells slots pc Ls (.int y :: .int x :: S) := by
  subst hp hv
  exact oW.pure (fun T locs X t k => XT.iushr X.here K.1.1 rfl (hb K.1.2.2.1 hd) rfl k) hr
theorem oW.iinc (K : oK p s m meth c Z own by0 ml ret nm) {k : Nat} {cst : Int} {x v : Int32} (hd : decode by0 pc = .ok (.iinc k cst, 3)) (hl : Ls[k]? = some (.val (.int x))) (hv : v = x + Int32.ofInt cst) (hs : storeLocals Ls k (.int v) = some Ls') (hp : pc + 3 = pc') (hr : oW p l e R s m args below meth c Z h0 P ds cells slots pc' Ls' (S)) : oW p l e R s m args below meth c Z h0 P ds cells slots pc Ls (S) := by
  subst hp hv
  exact oW.pure (fun T locs X t k => XS.iinc X.here K.1.1 rfl (hb K.1.2.2.1 hd) hl hs k) hr
theorem Gd (pc' : Nat) {x : Int32} {v : Int64} (K : oK p s m meth c Z own by0 ml ret nm) (hd : decode by0 pc=.ok (.i2l,1)) (hv : v=x.toInt64) (hr : oW p l e R s m args below meth c Z h0 P ds cells slots pc' Ls (.long v::S)) (hp : pc + 1=pc':=by exact rfl) : oW p l e R s m args below meth c Z h0 P ds cells slots pc Ls (.int x::S):=by
  subst hp hv
  exact oW.pure (fun T locs X t k=>XT.i2l X.here K.1.1 rfl (hb K.1.2.2.1 hd) rfl k) hr
theorem Gs (pc' : Nat) {x : Int64} {v : Int32} (K : oK p s m meth c Z own by0 ml ret nm) (hd : decode by0 pc=.ok (.l2i,1)) (hv : v=x.toInt32) (hr : oW p l e R s m args below meth c Z h0 P ds cells slots pc' Ls (.int v::S)) (hp : pc + 1=pc':=by exact rfl) : oW p l e R s m args below meth c Z h0 P ds cells slots pc Ls (.long x::S):=by
  subst hp hv
  exact oW.pure (fun T locs X t k=>XT.l2i X.here K.1.1 rfl (hb K.1.2.2.1 hd) rfl k) hr
theorem Hz (pc' : Nat) {x v : Int64} {y : Int32} (K : oK p s m meth c Z own by0 ml ret nm) (hd : decode by0 pc=.ok (.lshl,1)) (hv : v=x <<< (y.toInt64 &&& 63)) (hr : oW p l e R s m args below meth c Z h0 P ds cells slots pc' Ls (.long v::S)) (hp : pc + 1=pc':=by exact rfl) : oW p l e R s m args below meth c Z h0 P ds cells slots pc Ls (.int y::.long x::S):=by
  subst hp hv
  exact oW.pure (fun T locs X t k=>XT.lshl X.here K.1.1 rfl (hb K.1.2.2.1 hd) rfl k) hr
theorem oW.lshr (K : oK p s m meth c Z own by0 ml ret nm) {x v : Int64} {y : Int32} (hd : decode by0 pc = .ok (.lshr, 1)) (hv : v = x >>> (y.toInt64 &&& 63)) (hp : pc + 1 = pc') (hr : oW p l e R s m args below meth c Z h0 P ds cells slots pc' Ls (.long v :: S)) : oW p l e R s m args below meth c Z h0 P ds cells slots pc Ls (.int y :: .long x :: S) := by
  subst hp hv
  exact oW.pure (fun T locs X t k => XT.lshr X.here K.1.1 rfl (hb K.1.2.2.1 hd) rfl k) hr
theorem H0 (pc' : Nat) {x v : Int64} {y : Int32} (K : oK p s m meth c Z own by0 ml ret nm) (hd : decode by0 pc=.ok (.lushr,1)) (hv : v=XT.ushrL x y) (hr : oW p l e R s m args below meth c Z h0 P ds cells slots pc' Ls (.long v::S)) (hp : pc + 1=pc':=by exact rfl) : oW p l e R s m args below meth c Z h0 P ds cells slots pc Ls (.int y::.long x::S):=by
  subst hp hv
  exact oW.pure (fun T locs X t k=>XT.lushr X.here K.1.1 rfl (hb K.1.2.2.1 hd) rfl k) hr
theorem Y6 (pc' : Nat) {x y : Int64} {v : Int32} (K : oK p s m meth c Z own by0 ml ret nm) (hd : decode by0 pc=.ok (.lcmp,1)) (hv : v=XT.cmpL x y) (hr : oW p l e R s m args below meth c Z h0 P ds cells slots pc' Ls (.int v::S)) (hp : pc + 1=pc':=by exact rfl) : oW p l e R s m args below meth c Z h0 P ds cells slots pc Ls (.long y::.long x::S):=by
  subst hp hv
  exact oW.pure (fun T locs X t k=>XT.lcmp X.here K.1.1 rfl (hb K.1.2.2.1 hd) rfl k) hr
theorem oW.i2d (K : oK p s m meth c Z own by0 ml ret nm) {x : Int32} {v : UInt64} (hd : decode by0 pc = .ok (.i2d, 1)) (hv : v = FP.i2d x) (hp : pc + 1 = pc') (hr : oW p l e R s m args below meth c Z h0 P ds cells slots pc' Ls (.double v :: S)) : oW p l e R s m args below meth c Z h0 P ds cells slots pc Ls (.int x :: S) := by
  subst hp hv
  exact oW.pure (fun T locs X t k => XS.i2dS X.here K.1.1 rfl (hb K.1.2.2.1 hd) rfl rfl k) hr
theorem oW.l2d (K : oK p s m meth c Z own by0 ml ret nm) {x : Int64} {v : UInt64} (hd : decode by0 pc = .ok (.l2d, 1)) (hv : v = FP.l2d x) (hp : pc + 1 = pc') (hr : oW p l e R s m args below meth c Z h0 P ds cells slots pc' Ls (.double v :: S)) : oW p l e R s m args below meth c Z h0 P ds cells slots pc Ls (.long x :: S) := by
  subst hp hv
  exact oW.pure (fun T locs X t k => XS.l2dS X.here K.1.1 rfl (hb K.1.2.2.1 hd) rfl rfl k) hr
theorem Gi (pc' : Nat) {o : CmpOp} {x y : UInt64} {v : Int32} (K : oK p s m meth c Z own by0 ml ret nm) (hd : decode by0 pc=.ok (.dcmp o,1)) (hv : v=cmpValue (FP.dcmp x y) o) (hr : oW p l e R s m args below meth c Z h0 P ds cells slots pc' Ls (.int v::S)) (hp : pc + 1=pc':=by exact rfl) : oW p l e R s m args below meth c Z h0 P ds cells slots pc Ls (.double y::.double x::S):=by
  subst hp hv
  exact oW.pure (fun T locs X t k=>XS.dcmpS X.here K.1.1 rfl (hb K.1.2.2.1 hd) rfl rfl k) hr
theorem Yv (pc' : Nat) {x : Value} (K : oK p s m meth c Z own by0 ml ret nm) (hd : decode by0 pc=.ok (.dup,1)) (hr : oW p l e R s m args below meth c Z h0 P ds cells slots pc' Ls (x::x::S)) (hc : x.category=1:=by exact rfl) (hp : pc + 1=pc':=by exact rfl) : oW p l e R s m args below meth c Z h0 P ds cells slots pc Ls (x::S):=by
  subst hp
  exact oW.pure (fun T locs X t k=>XS.dup X.here K.1.1 rfl (hb K.1.2.2.1 hd) rfl hc k) hr
theorem Hk (pc' : Nat) {x : Value} (K : oK p s m meth c Z own by0 ml ret nm) (hd : decode by0 pc=.ok (.pop,1)) (hr : oW p l e R s m args below meth c Z h0 P ds cells slots pc' Ls (S)) (hc : x.category=1:=by exact rfl) (hp : pc + 1=pc':=by exact rfl) : oW p l e R s m args below meth c Z h0 P ds cells slots pc Ls (x::S):=by
  subst hp
  exact oW.pure (fun T locs X t k=>XT.pop X.here K.1.1 rfl (hb K.1.2.2.1 hd) rfl hc k) hr
theorem Gg (pc' : Nat) {x y : Value} (K : oK p s m meth c Z own by0 ml ret nm) (hd : decode by0 pc=.ok (.dup_x1,1)) (hr : oW p l e R s m args below meth c Z h0 P ds cells slots pc' Ls (x::y::x::S)) (hc : x.category=1:=by exact rfl) (hc' : y.category=1:=by exact rfl) (hp : pc + 1=pc':=by exact rfl) : oW p l e R s m args below meth c Z h0 P ds cells slots pc Ls (x::y::S):=by
  subst hp
  exact oW.pure (fun T locs X t k=>XT.dupX1 X.here K.1.1 rfl (hb K.1.2.2.1 hd) rfl hc hc' k) hr
theorem Yi (pc' : Nat) {o : Int} (K : oK p s m meth c Z own by0 ml ret nm) (hd : decode by0 pc=.ok (.goto o,3)) (hr : oW p l e R s m args below meth c Z h0 P ds cells slots pc' Ls S) (ho : 0≤(pc : Int) + o:=by decide) (hp : ((pc : Int) + o).toNat=pc':=by decide) : oW p l e R s m args below meth c Z h0 P ds cells slots pc Ls S :=
  oW.pure (fun T locs X t k=>XS.goto X.here K.1.1 rfl rfl (hb K.1.2.2.1 hd) ho hp k) hr
theorem oW.ifc (K : oK p s m meth c Z own by0 ml ret nm) {cd : ClassFile.Cond} {o : Int} {x : Int32} {pc3 : Nat} (hd : decode by0 pc = .ok (.ifCond cd o, 3)) (ho : 0 ≤ (pc : Int) + o) (hp : ((pc : Int) + o).toNat = pc') (h3 : pc + 3 = pc3) (hy : if_icmp.holds cd x 0 = true → oW p l e R s m args below meth c Z h0 P ds cells slots pc' Ls S) (hn : if_icmp.holds cd x 0 = false → oW p l e R s m args below meth c Z h0 P ds cells slots pc3 Ls S) : oW p l e R s m args below meth c Z h0 P ds cells slots pc Ls (.int x :: S) := by
  subst h3
  cases q : if_icmp.holds cd x 0
  · exact oW.pure (fun T locs X t k => XS.ifNo X.here K.1.1 rfl (hb K.1.2.2.1 hd) rfl ((if0 _ _).trans q) k) (hn q)
  · exact oW.pure (fun T locs X t k => XS.ifYes X.here K.1.1 rfl rfl (hb K.1.2.2.1 hd) rfl ((if0 _ _).trans q) ho hp k) (hy q)
theorem oW.icc (K : oK p s m meth c Z own by0 ml ret nm) {cd : ClassFile.Cond} {o : Int} {x y : Int32} {pc3 : Nat} (hd : decode by0 pc = .ok (.if_icmp cd o, 3)) (ho : 0 ≤ (pc : Int) + o) (hp : ((pc : Int) + o).toNat = pc') (h3 : pc + 3 = pc3) (hy : if_icmp.holds cd x y = true → oW p l e R s m args below meth c Z h0 P ds cells slots pc' Ls S) (hn : if_icmp.holds cd x y = false → oW p l e R s m args below meth c Z h0 P ds cells slots pc3 Ls S) : oW p l e R s m args below meth c Z h0 P ds cells slots pc Ls (.int y :: .int x :: S) := by
  subst h3
  cases q : if_icmp.holds cd x y
  · exact oW.pure (fun T locs X t k => XS.icmpNo X.here K.1.1 rfl (hb K.1.2.2.1 hd) rfl q k) (hn q)
  · exact oW.pure (fun T locs X t k => XS.icmpYes X.here K.1.1 rfl rfl (hb K.1.2.2.1 hd) rfl q ho hp k) (hy q)
theorem oH_lt {x y : Int32} : (if_icmp.holds .lt x y = true → x < y) ∧ (if_icmp.holds .lt x y = false → ¬ x < y) := ⟨fun q => Decidable.byContradiction (fun r => absurd q (by rw [(flt r).1]; decide)), fun q r => absurd q (by rw [(tlt r).1]; decide)⟩
theorem oH_ge {x y : Int32} : (if_icmp.holds .ge x y = true → ¬ x < y) ∧ (if_icmp.holds .ge x y = false → x < y) := ⟨fun q r => absurd q (by rw [(tlt r).2.1]; decide), fun q => Decidable.byContradiction (fun r => absurd q (by rw [(flt r).2.1]; decide))⟩
theorem oH_gt {x y : Int32} : (if_icmp.holds .gt x y = true → y < x) ∧ (if_icmp.holds .gt x y = false → ¬ y < x) := ⟨fun q => Decidable.byContradiction (fun r => absurd q (by rw [(flt r).2.2.1]; decide)), fun q r => absurd q (by rw [(tlt r).2.2.1]; decide)⟩
theorem oH_le {x y : Int32} : (if_icmp.holds .le x y = true → ¬ y < x) ∧ (if_icmp.holds .le x y = false → y < x) := ⟨fun q r => absurd q (by rw [(tlt r).2.2.2]; decide), fun q => Decidable.byContradiction (fun r => absurd q (by rw [(flt r).2.2.2]; decide))⟩
theorem oH_eq {x y : Int32} : (if_icmp.holds .eq x y = true → x = y) ∧ (if_icmp.holds .eq x y = false → ¬ x = y) := ⟨fun q => Decidable.byContradiction (fun r => absurd q (by rw [(feq r).1]; decide)), fun q r => absurd q (by rw [(teq r).1]; decide)⟩
theorem oH_ne {x y : Int32} : (if_icmp.holds .ne x y = true → ¬ x = y) ∧ (if_icmp.holds .ne x y = false → x = y) := ⟨fun q r => absurd q (by rw [(teq r).2]; decide), fun q => Decidable.byContradiction (fun r => absurd q (by rw [(feq r).2]; decide))⟩
theorem oW.if_lt (K : oK p s m meth c Z own by0 ml ret nm) {o : Int} {x : Int32} {pc3 : Nat} (hd : decode by0 pc = .ok (.ifCond .lt o, 3)) (ho : 0 ≤ (pc : Int) + o) (hp : ((pc : Int) + o).toNat = pc') (h3 : pc + 3 = pc3) (hy : x < 0 → oW p l e R s m args below meth c Z h0 P ds cells slots pc' Ls S) (hn : ¬ x < 0 → oW p l e R s m args below meth c Z h0 P ds cells slots pc3 Ls S) : oW p l e R s m args below meth c Z h0 P ds cells slots pc Ls (.int x :: S) :=
  oW.ifc K hd ho hp h3 (fun q => hy (oH_lt.1 q)) (fun q => hn (oH_lt.2 q))
theorem H1 (pc' : Nat) (pc3 : Nat) {o : Int} {x y : Int32} (K : oK p s m meth c Z own by0 ml ret nm) (hd : decode by0 pc=.ok (.if_icmp .lt o,3)) (hy : x < y→oW p l e R s m args below meth c Z h0 P ds cells slots pc' Ls S) (hn : ¬ x < y→oW p l e R s m args below meth c Z h0 P ds cells slots pc3 Ls S) (ho : 0≤(pc : Int) + o:=by decide) (hp : ((pc : Int) + o).toNat=pc':=by decide) (h3 : pc + 3=pc3:=by exact rfl) : oW p l e R s m args below meth c Z h0 P ds cells slots pc Ls (.int y::.int x::S) :=
  oW.icc K hd ho hp h3 (fun q=>hy (oH_lt.1 q)) (fun q=>hn (oH_lt.2 q))
theorem oW.if_ge (K : oK p s m meth c Z own by0 ml ret nm) {o : Int} {x : Int32} {pc3 : Nat} (hd : decode by0 pc = .ok (.ifCond .ge o, 3)) (ho : 0 ≤ (pc : Int) + o) (hp : ((pc : Int) + o).toNat = pc') (h3 : pc + 3 = pc3) (hy : ¬ x < 0 → oW p l e R s m args below meth c Z h0 P ds cells slots pc' Ls S) (hn : x < 0 → oW p l e R s m args below meth c Z h0 P ds cells slots pc3 Ls S) : oW p l e R s m args below meth c Z h0 P ds cells slots pc Ls (.int x :: S) :=
  oW.ifc K hd ho hp h3 (fun q => hy (oH_ge.1 q)) (fun q => hn (oH_ge.2 q))
theorem oW.icmp_ge (K : oK p s m meth c Z own by0 ml ret nm) {o : Int} {x y : Int32} {pc3 : Nat} (hd : decode by0 pc = .ok (.if_icmp .ge o, 3)) (ho : 0 ≤ (pc : Int) + o) (hp : ((pc : Int) + o).toNat = pc') (h3 : pc + 3 = pc3) (hy : ¬ x < y → oW p l e R s m args below meth c Z h0 P ds cells slots pc' Ls S) (hn : x < y → oW p l e R s m args below meth c Z h0 P ds cells slots pc3 Ls S) : oW p l e R s m args below meth c Z h0 P ds cells slots pc Ls (.int y :: .int x :: S) :=
  oW.icc K hd ho hp h3 (fun q => hy (oH_ge.1 q)) (fun q => hn (oH_ge.2 q))
theorem oW.if_gt (K : oK p s m meth c Z own by0 ml ret nm) {o : Int} {x : Int32} {pc3 : Nat} (hd : decode by0 pc = .ok (.ifCond .gt o, 3)) (ho : 0 ≤ (pc : Int) + o) (hp : ((pc : Int) + o).toNat = pc') (h3 : pc + 3 = pc3) (hy : 0 < x → oW p l e R s m args below meth c Z h0 P ds cells slots pc' Ls S) (hn : ¬ 0 < x → oW p l e R s m args below meth c Z h0 P ds cells slots pc3 Ls S) : oW p l e R s m args below meth c Z h0 P ds cells slots pc Ls (.int x :: S) :=
  oW.ifc K hd ho hp h3 (fun q => hy (oH_gt.1 q)) (fun q => hn (oH_gt.2 q))
theorem oW.icmp_gt (K : oK p s m meth c Z own by0 ml ret nm) {o : Int} {x y : Int32} {pc3 : Nat} (hd : decode by0 pc = .ok (.if_icmp .gt o, 3)) (ho : 0 ≤ (pc : Int) + o) (hp : ((pc : Int) + o).toNat = pc') (h3 : pc + 3 = pc3) (hy : y < x → oW p l e R s m args below meth c Z h0 P ds cells slots pc' Ls S) (hn : ¬ y < x → oW p l e R s m args below meth c Z h0 P ds cells slots pc3 Ls S) : oW p l e R s m args below meth c Z h0 P ds cells slots pc Ls (.int y :: .int x :: S) :=
  oW.icc K hd ho hp h3 (fun q => hy (oH_gt.1 q)) (fun q => hn (oH_gt.2 q))
theorem oW.if_le (K : oK p s m meth c Z own by0 ml ret nm) {o : Int} {x : Int32} {pc3 : Nat} (hd : decode by0 pc = .ok (.ifCond .le o, 3)) (ho : 0 ≤ (pc : Int) + o) (hp : ((pc : Int) + o).toNat = pc') (h3 : pc + 3 = pc3) (hy : ¬ 0 < x → oW p l e R s m args below meth c Z h0 P ds cells slots pc' Ls S) (hn : 0 < x → oW p l e R s m args below meth c Z h0 P ds cells slots pc3 Ls S) : oW p l e R s m args below meth c Z h0 P ds cells slots pc Ls (.int x :: S) :=
  oW.ifc K hd ho hp h3 (fun q => hy (oH_le.1 q)) (fun q => hn (oH_le.2 q))
theorem oW.icmp_le (K : oK p s m meth c Z own by0 ml ret nm) {o : Int} {x y : Int32} {pc3 : Nat} (hd : decode by0 pc = .ok (.if_icmp .le o, 3)) (ho : 0 ≤ (pc : Int) + o) (hp : ((pc : Int) + o).toNat = pc') (h3 : pc + 3 = pc3) (hy : ¬ y < x → oW p l e R s m args below meth c Z h0 P ds cells slots pc' Ls S) (hn : y < x → oW p l e R s m args below meth c Z h0 P ds cells slots pc3 Ls S) : oW p l e R s m args below meth c Z h0 P ds cells slots pc Ls (.int y :: .int x :: S) :=
  oW.icc K hd ho hp h3 (fun q => hy (oH_le.1 q)) (fun q => hn (oH_le.2 q))
theorem oW.if_eq (K : oK p s m meth c Z own by0 ml ret nm) {o : Int} {x : Int32} {pc3 : Nat} (hd : decode by0 pc = .ok (.ifCond .eq o, 3)) (ho : 0 ≤ (pc : Int) + o) (hp : ((pc : Int) + o).toNat = pc') (h3 : pc + 3 = pc3) (hy : x = 0 → oW p l e R s m args below meth c Z h0 P ds cells slots pc' Ls S) (hn : ¬ x = 0 → oW p l e R s m args below meth c Z h0 P ds cells slots pc3 Ls S) : oW p l e R s m args below meth c Z h0 P ds cells slots pc Ls (.int x :: S) :=
  oW.ifc K hd ho hp h3 (fun q => hy (oH_eq.1 q)) (fun q => hn (oH_eq.2 q))
theorem oW.icmp_eq (K : oK p s m meth c Z own by0 ml ret nm) {o : Int} {x y : Int32} {pc3 : Nat} (hd : decode by0 pc = .ok (.if_icmp .eq o, 3)) (ho : 0 ≤ (pc : Int) + o) (hp : ((pc : Int) + o).toNat = pc') (h3 : pc + 3 = pc3) (hy : x = y → oW p l e R s m args below meth c Z h0 P ds cells slots pc' Ls S) (hn : ¬ x = y → oW p l e R s m args below meth c Z h0 P ds cells slots pc3 Ls S) : oW p l e R s m args below meth c Z h0 P ds cells slots pc Ls (.int y :: .int x :: S) :=
  oW.icc K hd ho hp h3 (fun q => hy (oH_eq.1 q)) (fun q => hn (oH_eq.2 q))
theorem oW.if_ne (K : oK p s m meth c Z own by0 ml ret nm) {o : Int} {x : Int32} {pc3 : Nat} (hd : decode by0 pc = .ok (.ifCond .ne o, 3)) (ho : 0 ≤ (pc : Int) + o) (hp : ((pc : Int) + o).toNat = pc') (h3 : pc + 3 = pc3) (hy : ¬ x = 0 → oW p l e R s m args below meth c Z h0 P ds cells slots pc' Ls S) (hn : x = 0 → oW p l e R s m args below meth c Z h0 P ds cells slots pc3 Ls S) : oW p l e R s m args below meth c Z h0 P ds cells slots pc Ls (.int x :: S) :=
  oW.ifc K hd ho hp h3 (fun q => hy (oH_ne.1 q)) (fun q => hn (oH_ne.2 q))
theorem oW.icmp_ne (K : oK p s m meth c Z own by0 ml ret nm) {o : Int} {x y : Int32} {pc3 : Nat} (hd : decode by0 pc = .ok (.if_icmp .ne o, 3)) (ho : 0 ≤ (pc : Int) + o) (hp : ((pc : Int) + o).toNat = pc') (h3 : pc + 3 = pc3) (hy : ¬ x = y → oW p l e R s m args below meth c Z h0 P ds cells slots pc' Ls S) (hn : x = y → oW p l e R s m args below meth c Z h0 P ds cells slots pc3 Ls S) : oW p l e R s m args below meth c Z h0 P ds cells slots pc Ls (.int y :: .int x :: S) :=
  oW.icc K hd ho hp h3 (fun q => hy (oH_ne.1 q)) (fun q => hn (oH_ne.2 q))
theorem Hl (pc' : Nat) {o : Int} {b : Addr} (K : oK p s m meth c Z own by0 ml ret nm) (hd : decode by0 pc=.ok (.ifnull o,3)) (hr : oW p l e R s m args below meth c Z h0 P ds cells slots pc' Ls S) (hp : pc + 3=pc':=by exact rfl) : oW p l e R s m args below meth c Z h0 P ds cells slots pc Ls (.ref b::S):=by
  subst hp
  exact oW.pure (fun T locs X t k=>XS.ifnullNo X.here K.1.1 rfl (hb K.1.2.2.1 hd) rfl k) hr
theorem Gw (pc' : Nat) {o : Int} (K : oK p s m meth c Z own by0 ml ret nm) (hd : decode by0 pc=.ok (.ifnull o,3)) (hr : oW p l e R s m args below meth c Z h0 P ds cells slots pc' Ls S) (ho : 0≤(pc : Int) + o:=by decide) (hp : ((pc : Int) + o).toNat=pc':=by decide) : oW p l e R s m args below meth c Z h0 P ds cells slots pc Ls (.null::S) :=
  oW.pure (fun T locs X t k=>XS.ifnullYes X.here K.1.1 rfl rfl (hb K.1.2.2.1 hd) rfl ho hp k) hr
theorem G8 (pc' : Nat) {index : Nat} {v : Int32} (K : oK p s m meth c Z own by0 ml ret nm) (w : (Jvm.Cond.constant own index v).before a0 Z=true) (hd : decode by0 pc=.ok (.ldc index,2)) (hr : oW p l e R s m args below meth c Z h0 P ds cells slots pc' Ls (.int v::S)) (hp : pc + 2=pc':=by exact rfl) : oW p l e R s m args below meth c Z h0 P ds cells slots pc Ls S:=by
  subst hp
  exact oW.pure (fun T locs X t k=>X.ldcInt K.1.1 K.2.1 (mv K.1.2.1 w) (g:=mkF m pc Ls S) rfl (hb K.1.2.2.1 hd) t k) hr
theorem Gx (pc' : Nat) {index : Nat} {v : Int64} (K : oK p s m meth c Z own by0 ml ret nm) (w : (Jvm.Cond.constantLong own index v).before a0 Z=true) (hd : decode by0 pc=.ok (.ldc2_w index,3)) (hr : oW p l e R s m args below meth c Z h0 P ds cells slots pc' Ls (.long v::S)) (hp : pc + 3=pc':=by exact rfl) : oW p l e R s m args below meth c Z h0 P ds cells slots pc Ls S:=by
  subst hp
  exact oW.pure (fun T locs X t k=>X.ldc2Long K.1.1 K.2.1 (mv K.1.2.1 w) (g:=mkF m pc Ls S) rfl (hb K.1.2.2.1 hd) t k) hr
theorem oLen {vs : List Value} {j : Int32} {k : Nat} {v : Value} {c : Cell} (hj : j = Int32.ofNat k) (hk : k < 2 ^ 31) (hv : vs[k]? = some v) (hs : c.slots = vs.toArray) : ¬ (j < 0 ∨ c.slots.size ≤ j.toNatClampNeg) ∧ c.slots[j.toNatClampNeg]? = some v := by
  subst hj
  have e : (Int32.ofNat k).toNatClampNeg = k := Int32.toNatClampNeg_ofNat_of_lt hk
  have l := (List.getElem?_eq_some_iff.mp hv).1
  rw [e, hs]
  refine ⟨fun q => q.elim (Int32.ofNat_not_neg hk) (fun r => by simp at r; omega), by simpa using hv⟩
theorem oW.iaload (K : oK p s m meth c Z own by0 ml ret nm) {i k : Nat} {a : Addr} {vs : List Value} {j : Int32} {v : Value} (hd : decode by0 pc = .ok (.iaload, 1)) (hi : ds[i]? = some (a, .inl (.int, vs))) (hj : j = Int32.ofNat k) (hk : k < 2 ^ 31) (hv : vs[k]? = some v) (hp : pc + 1 = pc') (hr : oW p l e R s m args below meth c Z h0 P ds cells slots pc' Ls (v :: S)) : oW p l e R s m args below meth c Z h0 P ds cells slots pc Ls (.int j :: .ref a :: S) := by
  subst hp
  rintro T ⟨locs, X, N, M⟩
  obtain ⟨cl, A, hs, -⟩ := (M.2.2 i _ hi).2
  obtain ⟨q1, q2⟩ := oLen hj hk hv hs
  exact oW.ends (fun t k => X.iaload K.1.1 A.1 (State.isArrayOf_alike K.1.2.1.alike A.2.1) A.2.2 q1 q2 (g := mkF m pc Ls (.int j :: .ref a :: S)) rfl rfl (hb K.1.2.2.1 hd) t k) (hr T ⟨locs, X, N, M⟩)
theorem oW.laload (K : oK p s m meth c Z own by0 ml ret nm) {i k : Nat} {a : Addr} {vs : List Value} {j : Int32} {v : Value} (hd : decode by0 pc = .ok (.laload, 1)) (hi : ds[i]? = some (a, .inl (.long, vs))) (hj : j = Int32.ofNat k) (hk : k < 2 ^ 31) (hv : vs[k]? = some v) (hp : pc + 1 = pc') (hr : oW p l e R s m args below meth c Z h0 P ds cells slots pc' Ls (v :: S)) : oW p l e R s m args below meth c Z h0 P ds cells slots pc Ls (.int j :: .ref a :: S) := by
  subst hp
  rintro T ⟨locs, X, N, M⟩
  obtain ⟨cl, A, hs, -⟩ := (M.2.2 i _ hi).2
  obtain ⟨q1, q2⟩ := oLen hj hk hv hs
  exact oW.ends (fun t k => X.laload K.1.1 A.1 (State.isArrayOf_alike K.1.2.1.alike A.2.1) A.2.2 q1 q2 (g := mkF m pc Ls (.int j :: .ref a :: S)) rfl rfl (hb K.1.2.2.1 hd) t k) (hr T ⟨locs, X, N, M⟩)
theorem oW.iastore (K : oK p s m meth c Z own by0 ml ret nm) {i k : Nat} {a : Addr} {vs : List Value} {j : Int32} {x : Int32} (hd : decode by0 pc = .ok (.iastore, 1)) (hi : ds[i]? = some (a, .inl (.int, vs))) (hj : j = Int32.ofNat k) (hk : k < 2 ^ 31) (hl : k < vs.length) (hds : ds.set i (a, .inl (.int, vs.set k (.int x))) = ds') (hp : pc + 1 = pc') (hr : oW p l e R s m args below meth c Z h0 P ds' cells slots pc' Ls S) : oW p l e R s m args below meth c Z h0 P ds cells slots pc Ls (.int x :: .int j :: .ref a :: S) := by
  subst hp hds
  rintro T ⟨locs, X, N, M⟩
  obtain ⟨ha, cl, A, hs, hE, hO⟩ := M.2.2 i _ hi
  obtain ⟨q1, q2⟩ := oLen hj hk (List.getElem?_eq_getElem hl) hs
  obtain ⟨T', h', X', e', Wr', st⟩ := stI X K.1.1 K.1.2.1 rfl A (x := x) q1 (g := mkF m pc Ls (.int x :: .int j :: .ref a :: S)) rfl rfl (hb K.1.2.2.1 hd)
  have ek : j.toNatClampNeg = k := by subst hj; exact Int32.toNatClampNeg_ofNat_of_lt hk
  refine oW.ends st (hr T' ⟨_, X', Fr.snoc X' N ha, ?_⟩)
  rw [e']
  refine M.put hi Wr' ⟨_, A.same Wr', ?_, hE.wr Wr', hO⟩
  rw [ek]; simp [Cell.setSlot, hs]
theorem oW.lastore (K : oK p s m meth c Z own by0 ml ret nm) {i k : Nat} {a : Addr} {vs : List Value} {j : Int32} {x : Int64} (hd : decode by0 pc = .ok (.lastore, 1)) (hi : ds[i]? = some (a, .inl (.long, vs))) (hj : j = Int32.ofNat k) (hk : k < 2 ^ 31) (hl : k < vs.length) (hds : ds.set i (a, .inl (.long, vs.set k (.long x))) = ds') (hp : pc + 1 = pc') (hr : oW p l e R s m args below meth c Z h0 P ds' cells slots pc' Ls S) : oW p l e R s m args below meth c Z h0 P ds cells slots pc Ls (.long x :: .int j :: .ref a :: S) := by
  subst hp hds
  rintro T ⟨locs, X, N, M⟩
  obtain ⟨ha, cl, A, hs, hE, hO⟩ := M.2.2 i _ hi
  obtain ⟨q1, q2⟩ := oLen hj hk (List.getElem?_eq_getElem hl) hs
  obtain ⟨T', h', X', e', Wr', st⟩ := stJ X K.1.1 K.1.2.1 rfl A (x := x) q1 (g := mkF m pc Ls (.long x :: .int j :: .ref a :: S)) rfl rfl (hb K.1.2.2.1 hd)
  have ek : j.toNatClampNeg = k := by subst hj; exact Int32.toNatClampNeg_ofNat_of_lt hk
  refine oW.ends st (hr T' ⟨_, X', Fr.snoc X' N ha, ?_⟩)
  rw [e']
  refine M.put hi Wr' ⟨_, A.same Wr', ?_, hE.wr Wr', hO⟩
  rw [ek]; simp [Cell.setSlot, hs]
theorem oW.alen (K : oK p s m meth c Z own by0 ml ret nm) {i : Nat} {a : Addr} {ty : FieldType} {vs : List Value} {v : Int32} (hd : decode by0 pc = .ok (.arraylength, 1)) (hi : ds[i]? = some (a, .inl (ty, vs))) (hv : v = Int32.ofNat vs.length) (hp : pc + 1 = pc') (hr : oW p l e R s m args below meth c Z h0 P ds cells slots pc' Ls (.int v :: S)) : oW p l e R s m args below meth c Z h0 P ds cells slots pc Ls (.ref a :: S) := by
  subst hp
  rintro T ⟨locs, X, N, M⟩
  obtain ⟨cl, A, hs, -⟩ := (M.2.2 i _ hi).2
  have ev : v = cl.slots.size.toInt32 := by rw [hv, hs]; simp
  subst ev
  exact oW.ends (fun t k => X.arraylength K.1.1 A.1 (State.isArrayOf_alike K.1.2.1.alike A.2.1) (g := mkF m pc Ls (.ref a :: S)) rfl rfl (hb K.1.2.2.1 hd) t k) (hr T ⟨locs, X, N, M⟩)
theorem Y3 (n : Nat) (cells' : Nat) (slots' : Nat) (pc' : Nat) {aty : ArrayType} {j : Int32} {dsf : Addr→oDs} (K : oK p s m meth c Z own by0 ml ret nm) (w : (Jvm.Cond.arrayClass (newarray.typeOf aty)).before a0 Z=true) (hd : decode by0 pc=.ok (.newarray aty,2)) (hds : ∀ a,ds ++ [(a,.inl (newarray.typeOf aty,List.replicate n (defaultValue (newarray.typeOf aty))))]=dsf a) (hr : ∀ a : Addr,h0.size≤a→oW p l e R s m args below meth c Z h0 P (dsf a) cells' slots' pc' Ls (.ref a::S)) (hj : j=Int32.ofNat n:=by exact rfl) (hn : n < 2 ^ 31:=by decide) (hb8 : n * 8≤536870912:=by decide) (hc : cells + 1≤R.cells:=by decide) (hs : slots + n≤R.slots:=by decide) (hc' : cells + 1=cells':=by exact rfl) (hs' : slots + n=slots':=by exact rfl) (hp : pc + 2=pc':=by exact rfl) : oW p l e R s m args below meth c Z h0 P ds cells slots pc Ls (.int j::S):=by
  subst hp hc' hs'
  rintro T ⟨locs,X,N,M⟩
  have ej : j.toNatClampNeg=n:=by subst hj; exact Int32.toNatClampNeg_ofNat_of_lt hn
  obtain ⟨T',h',k,X',e',E',A',Ex',st⟩:=newPE (had:=rfl) X K.1.1 K.1.2.1 w rfl (g:=mkF m pc Ls (.int j::S)) rfl (hb K.1.2.2.1 hd) rfl (by subst hj; exact Int32.ofNat_not_neg hn) (cap:=n) (Nat.le_of_eq ej) hb8 hc hs
  refine oW.ends st (hr T.heap.size M.1.1 T' ⟨_,X',N,?_⟩)
  rw [e',← hds]
  refine M.push E' ⟨_,A',?_,Ex',by cases aty<;>intro t q<;>cases q⟩
  simp [newA,ej]
theorem H2 (fs : List (String × String × String × Value)) (cells' : Nat) (slots' : Nat) (dsf : Addr→oDs) (pc' : Nat) {index n : Nat} {C : String} (K : oK p s m meth c Z own by0 ml ret nm) (w : (Jvm.Cond.classLink own index C).before a0 Z=true) (wi : (Jvm.Cond.instantiable C n).before a0 Z=true) (wz : (Jvm.Cond.initialized C).before a0 Z=true) (hL : ∀ f ∈ fs,Laid Z a0 C f.1 f.2.1 f.2.2.1∧∃ t,parseFieldDescriptor f.2.2.1=some t∧f.2.2.2=defaultValue t) (hd : decode by0 pc=.ok (.new index,3)) (hr : ∀ a : Addr,h0.size≤a→oW p l e R s m args below meth c Z h0 P (dsf a) cells' slots' pc' Ls (.ref a::S)) (hc : cells + 1≤R.cells:=by decide) (hs : slots + n≤R.slots:=by decide) (hc' : cells + 1=cells':=by exact rfl) (hs' : slots + n=slots':=by exact rfl) (hds : ∀ a,ds ++ [(a,.inr (C,fs))]=dsf a:=by exact fun _=>rfl) (hp : pc + 3=pc':=by exact rfl) : oW p l e R s m args below meth c Z h0 P ds cells slots pc Ls S:=by
  subst hp hc' hs'
  rintro T ⟨locs,X,N,M⟩
  obtain ⟨T',h',X',e',E',A',D',-,st⟩:=newO X K.1.1 K.1.2.1 K.2.1 w wi wz rfl (g:=mkF m pc Ls S) rfl (hb K.1.2.2.1 hd) hc hs
  refine oW.ends st (hr T.heap.size M.1.1 T' ⟨_,X',N,?_⟩)
  rw [e',← hds]
  refine M.push E' ⟨A',fun f hf=>?_⟩
  obtain ⟨L,t,h1,h2⟩:=hL f hf
  rw [h2]; exact D' L h1
theorem Yc (i : Nat) (q : Nat) (pc' : Nat) {index : Nat} {a : Addr} {C O n d : String} {fs : List (String × String × String × Value)} {v : Value} (K : oK p s m meth c Z own by0 ml ret nm) (w : (Jvm.Cond.fieldLink own index O n d).before a0 Z=true) (hd : decode by0 pc=.ok (.getfield index,3)) (hr : oW p l e R s m args below meth c Z h0 P ds cells slots pc' Ls (v::S)) (hi : ds[i]?=some (a,.inr (C,fs)):=by exact rfl) (hf : fs[q]?=some (O,n,d,v):=by exact rfl) (hp : pc + 3=pc':=by exact rfl) : oW p l e R s m args below meth c Z h0 P ds cells slots pc Ls (.ref a::S):=by
  subst hp
  rintro T ⟨locs,X,N,M⟩
  obtain ⟨ha,hE,hF⟩:=M.2.2 i _ hi
  obtain ⟨T', X', e', st⟩ := getF X K.1.1 K.1.2.1 K.2.1 (host := "") (Or.inl w) Via.refl rfl (hF _ (List.mem_of_getElem? hf)) (g := mkF m pc Ls (.ref a :: S)) rfl rfl (hb K.1.2.2.1 hd)
  exact oW.ends st (hr T' ⟨_,X',N,by rw [e']; exact M⟩)
theorem Yl (i : Nat) (q : Nat) (ty : FieldType) (pc' : Nat) {index kk : Nat} {a : Addr} {C O n d : String} {fs : List (String × String × String × Value)} {v old : Value} (K : oK p s m meth c Z own by0 ml ret nm) (w : (Jvm.Cond.fieldLink own index O n d).before a0 Z = true) (L : (Jvm.Cond.lays C O n d).before a0 Z = true ∨ ((Jvm.Cond.laysFinal C O n d).before a0 Z = true ∧ own = O ∧ nm = "<init>")) (wi : (Jvm.Cond.instantiable C kk).before a0 Z = true) (hap : oApart Z fs) (hd : decode by0 pc = .ok (.putfield index, 3)) (hi : ds[i]? = some (a, .inr (C, fs))) (hf : fs[q]? = some (O, n, d, old)) (hds : ds.set i (a, .inr (C, fs.set q (O, n, d, v))) = ds') (hr : oW p l e R s m args below meth c Z h0 P ds' cells slots pc' Ls S) (hty : parseFieldDescriptor d = some ty := by decide) (hn : narrow ty v = v := by exact rfl) (hfit : fits ty v = true := by exact rfl) (hp : pc + 3 = pc' := by exact rfl) : oW p l e R s m args below meth c Z h0 P ds cells slots pc Ls (v :: .ref a :: S) := by
  subst hp hds
  rintro T ⟨locs,X,N,M⟩
  obtain ⟨ha,hE,hF⟩:=M.2.2 i _ hi
  have hFq:=hF _ (List.mem_of_getElem? hf)
  obtain ⟨T', h', X', e', Wr', st⟩ := putF X K.1.1 K.1.2.1 K.2.1 (host := "") (Or.inl w) Via.refl rfl hFq hE (L.imp id fun r => ⟨r.1, r.2.1, K.2.2.2.2.trans r.2.2⟩) wi hty hn hfit (g := mkF m pc Ls (v :: .ref a :: S)) rfl rfl (hb K.1.2.2.1 hd)
  refine oW.ends st (hr T' ⟨_,X',Fr.snoc X' N ha,?_⟩)
  rw [e']
  refine M.put hi Wr' ⟨hE.wr Wr',fun f hf'=>?_⟩
  obtain ⟨r,hr'⟩:=List.getElem?_of_mem hf'
  rw [List.getElem?_set] at hr'
  split at hr'
  · rename_i er
    subst er
    rw [if_pos (List.getElem?_eq_some_iff.mp hf).1] at hr'
    cases hr'
    exact hFq.same Wr'
  · rename_i er
    have hh:=hap r q f (O,n,d,old) (Ne.symm er) hr' hf
    exact (hF f (List.mem_of_getElem? hr')).other Wr' (Or.inr hh)
theorem H3 (W : Nat) (pc' : Nat) {idx : Nat} {a : Addr} (K : oK p s m meth c Z own by0 ml ret nm) (w1 : (Jvm.Cond.methodLink own idx Lib.objectInit).before a0 Z=true) (w2 : (Jvm.Cond.instanceMethod Lib.objectInit).before a0 Z=true) (w3 : (Jvm.Cond.code Lib.objectInit ⟨#[0xb1]⟩ 1 none).before a0 Z=true) (hd : decode by0 pc=.ok (.invokespecial idx,3)) (hr : oW p l e R s m args below meth c Z h0 P ds cells slots pc' Ls S) (hsz : Ls.size=ml:=by exact rfl) (hf : 1≤R.frames:=by decide) (hW : (S.map fun v=>v.category).sum≤W:=by exact Nat.le_of_eq rfl) (hl : W + 12≤R.locals:=by decide) (hp : pc + 3=pc':=by exact rfl) : oW p l e R s m args below meth c Z h0 P ds cells slots pc Ls (.ref a::S):=by
  subst hp
  rintro T ⟨locs,X,N,M⟩
  obtain ⟨T',X',e',st⟩:=Jvm.RoadKit.initO X K.1.1 K.1.2.1 K.2.1 w1 w2 w3 rfl (g:=mkF m pc Ls (.ref a::S)) rfl (hsz.trans K.1.2.2.2.symm) rfl (hb K.1.2.2.1 hd) hf (W:=W) (by show 2 * 0 + _≤_; omega) hl
  exact oW.ends st (hr T' ⟨_,X',N,by rw [e']; exact M⟩)
theorem oW.loop {α : Type} {F : α → Prop} {mu : α → Nat} {pcj : Nat} {Lf : α → Array Slot} {Sf : α → List Value} {dsf : α → oDs} (h : ∀ z, F z → (∀ z', F z' → mu z' < mu z → oW p l e R s m args below meth c Z h0 P (dsf z') cells slots pcj (Lf z') (Sf z')) → oW p l e R s m args below meth c Z h0 P (dsf z) cells slots pcj (Lf z) (Sf z)) : ∀ z, F z → oW p l e R s m args below meth c Z h0 P (dsf z) cells slots pcj (Lf z) (Sf z) := by
  intro z
  generalize hn : mu z = n
  induction n using Nat.strongRecOn generalizing z with
  | ind n ih => exact fun hz => h z hz fun z' hz' hl => ih (mu z') (by omega) z' rfl hz'
theorem oW.leave (K : oK p s m meth c Z own by0 ml ret nm) {v : Option Value} (hv : ret = none → v = none) (hc : cells ≤ R.cells) (hs : slots ≤ R.slots) (hP : P v ds)
    (st : ∀ (T : State) (locs : List Loc) (fs : List Frame), Stand p l e R s m args below meth c T locs cells slots → (∀ (f : JFrame) (acts : List Action), f.method = m → f.locked = none → f.entered = [] → (doReturn e (T.setTop f) acts v).1 = T.setFrames fs) → Steps p.tables e below (T.setTop (mkF m pc Ls S)) (T.setFrames fs)) : oW p l e R s m args below meth c Z h0 P ds cells slots pc Ls S := by
  rintro T ⟨locs, X, N, M⟩
  obtain ⟨fs, hr, hrun, hended, hW, hsame⟩ := X.leave (v := v) (fun h => hv (K.2.2.1.symm.trans h)) K.2.2.2.1
  exact ⟨_, _, st T locs fs X hr, hrun, hended, v, locs, rfl, ⟨N, ds, hP, M⟩, ⟨_, rfl⟩, hW, hsame.mono hc hs⟩
theorem Y5 {z : Int32} (K : oK p s m meth c Z own by0 ml ret nm) (hd : decode by0 pc=.ok (.ireturn,1)) (hP : P (some (.int (nar .boolean z))) ds) (hret : ret=some .boolean:=by exact rfl) (hc : cells≤R.cells:=by decide) (hs : slots≤R.slots:=by decide) : oW p l e R s m args below meth c Z h0 P ds cells slots pc Ls (.int z::S) :=
  oW.leave K (by rw [hret]; intro h; cases h) hc hs hP fun T locs fs X hr=>retN X K.1.1 (t:=.boolean) (K.2.2.1.trans hret) (Or.inl rfl) (hb K.1.2.2.1 hd) hr
theorem Yq {z : Int32} (K : oK p s m meth c Z own by0 ml ret nm) (hd : decode by0 pc=.ok (.ireturn,1)) (hP : P (some (.int z)) ds) (hret : ret=some .int:=by exact rfl) (hc : cells≤R.cells:=by decide) (hs : slots≤R.slots:=by decide) : oW p l e R s m args below meth c Z h0 P ds cells slots pc Ls (.int z::S) :=
  oW.leave K (by rw [hret]; intro h; cases h) hc hs hP fun T locs fs X hr=>retOut X K.1.1 (K.2.2.1.trans hret) rfl (Or.inl ⟨rfl,Or.inl rfl,_,rfl⟩) (hb K.1.2.2.1 hd) hr
theorem Ho {z : Int64} (K : oK p s m meth c Z own by0 ml ret nm) (hd : decode by0 pc=.ok (.lreturn,1)) (hP : P (some (.long z)) ds) (hret : ret=some .long:=by exact rfl) (hc : cells≤R.cells:=by decide) (hs : slots≤R.slots:=by decide) : oW p l e R s m args below meth c Z h0 P ds cells slots pc Ls (.long z::S) :=
  oW.leave K (by rw [hret]; intro h; cases h) hc hs hP fun T locs fs X hr=>retOut X K.1.1 (K.2.2.1.trans hret) rfl (Or.inr (Or.inl ⟨rfl,rfl,_,rfl⟩)) (hb K.1.2.2.1 hd) hr
theorem oW.retD (K : oK p s m meth c Z own by0 ml ret nm) {z : UInt64} (hret : ret = some .double) (hd : decode by0 pc = .ok (.dreturn, 1)) (hc : cells ≤ R.cells) (hs : slots ≤ R.slots) (hP : P (some (.double z)) ds) : oW p l e R s m args below meth c Z h0 P ds cells slots pc Ls (.double z :: S) :=
  oW.leave K (by rw [hret]; intro h; cases h) hc hs hP fun T locs fs X hr => retOut X K.1.1 (K.2.2.1.trans hret) rfl (Or.inr (Or.inr (Or.inl ⟨rfl, rfl, _, rfl⟩))) (hb K.1.2.2.1 hd) hr
theorem G0 {a : Addr} {t : FieldType} (K : oK p s m meth c Z own by0 ml ret nm) (hd : decode by0 pc=.ok (.areturn,1)) (hP : P (some (.ref a)) ds) (hret : ret=some t:=by exact rfl) (hn : narrow t (.ref a)=.ref a:=by exact rfl) (hc : cells≤R.cells:=by decide) (hs : slots≤R.slots:=by decide) (ht : t.isReference=true:=by exact rfl) : oW p l e R s m args below meth c Z h0 P ds cells slots pc Ls (.ref a::S) :=
  oW.leave K (by rw [hret]; intro h; cases h) hc hs hP fun T locs fs X hr=>retOut X K.1.1 (K.2.2.1.trans hret) hn (Or.inr (Or.inr (Or.inr (Or.inr ⟨rfl,ht,rfl⟩)))) (hb K.1.2.2.1 hd) hr
theorem Ga (K : oK p s m meth c Z own by0 ml ret nm) (hd : decode by0 pc=.ok (.return_,1)) (hP : P none ds) (hret : ret=none:=by exact rfl) (hc : cells≤R.cells:=by decide) (hs : slots≤R.slots:=by decide) : oW p l e R s m args below meth c Z h0 P ds cells slots pc Ls [] :=
  oW.leave K (fun _=>rfl) hc hs hP fun T locs fs X hr=>X.returnOut K.1.1 (K.2.2.1.trans hret) (hb K.1.2.2.1 hd) hr
theorem Yk (argsL : List Value) (S : List Value) (W : Nat) (cells' : Nat) (slots' : Nat) (pc' : Nat) {y : MethodName} {index : Nat} {by1 : ByteArray} {ml1 : Nat} {rt1 : Option FieldType} {rm : Room} {P2 : Value → oDs → Prop} (K : oK p s m meth c Z own by0 ml ret nm) (w1 : (Jvm.Cond.methodLink own index y).before a0 Z = true) (w2 : (Jvm.Cond.static y).before a0 Z = true) (w3 : (Jvm.Cond.initialized y.cls).before a0 Z = true) (w4 : (Jvm.Cond.code y by1 ml1 rt1).before a0 Z = true) (C : oCtr l Z h0 [] y by1 ml1 rt1 rm argsL.toArray ds (oVal P2)) (hlen : ∀ sig, parseMethodDescriptor y.desc = some sig → argsL.length = sig.parameters.length) (hd : decode by0 pc = .ok (.invokestatic index, 3)) (hr : ∀ w ds', P2 w ds' → oW p l e R s m args below meth c Z h0 P ds' cells' slots' pc' Ls (w :: S)) (hy : y.cls ≠ "java/lang/invoke/MethodHandle" ∧ y.cls ≠ "java/lang/invoke/VarHandle" := by decide) (hst : S' = argsL.reverse ++ S := by exact rfl) (hsz : Ls.size = ml := by exact rfl) (hW : (S.map fun v => v.category).sum ≤ W := by exact Nat.le_of_eq rfl) (hf : rm.frames + 1 ≤ R.frames := by decide) (hl : W + (ml1 + 11) + rm.locals ≤ R.locals := by decide) (hc : cells + rm.cells ≤ R.cells := by decide) (hs : slots + rm.slots ≤ R.slots := by decide) (hc' : cells + rm.cells = cells' := by exact rfl) (hs' : slots + rm.slots = slots' := by exact rfl) (hp : pc + 3 = pc' := by exact rfl) : oW p l e R s m args below meth c Z h0 P ds cells slots pc Ls S' := by
  subst hp hst hc' hs'
  rintro T ⟨locs,X,N,M⟩
  obtain ⟨v,vm1,⟨T',L',k',n'⟩,-,X',⟨Lc,hQ,l',y',z'⟩,st⟩:=Jvm.LawKit.callS X K.1.1 K.2.1 (mvT K.1.2.1 w1) (mvT K.1.2.1 w2) (mvT K.1.2.1 w3) (mvT K.1.2.1 w4) hy (backOf (W:=W) (Q:=fun v hp L=>Fr h0.size L∧∃ ds',(oVal P2) v ds'∧oMem Z h0 hp ds') (C T.heap M) K.1.2.1 w4 w3 hf hl) (g:=mkF m pc Ls (argsL.reverse ++ S)) rfl (hsz.trans K.1.2.2.2.symm) (argsL:=argsL) (rest:=S) hlen rfl (by show 2 * 0 + _≤_; omega) (hb K.1.2.2.1 hd) (fun _ _=>⟨rfl,rfl,hc,hs⟩)
  dsimp only [Pt.U,Pt.locs,Pt.cells,Pt.slots] at X' l' y' z' st hQ
  subst l' y' z'
  obtain ⟨N',ds',hP,M'⟩:=hQ
  obtain ⟨w,rfl,hP⟩:=hP
  exact oW.ends st (hr w ds' hP T' ⟨_,X',N.app N',M'⟩)
theorem Yu (a : Addr) (argsL : List Value) (S : List Value) (W : Nat) (cells' : Nat) (slots' : Nat) (pc' : Nat) {y z : MethodName} {C : String} {index : Nat} {by1 : ByteArray} {ml1 : Nat} {rt1 : Option FieldType} {rm : Room} {P2 : Value → oDs → Prop} (K : oK p s m meth c Z own by0 ml ret nm) (w1 : (Jvm.Cond.methodLink own index y).before a0 Z = true) (w2 : (Jvm.Cond.declares y).before a0 Z = true) (w3 : (Jvm.Cond.selects C y z).before a0 Z = true) (w4 : (Jvm.Cond.instanceMethod z).before a0 Z = true) (w5 : (Jvm.Cond.code z by1 ml1 rt1).before a0 Z = true) (w6 : (Jvm.Cond.initialized z.cls).before a0 Z = true) (hnf : ∀ s : State, Z.Warmed39 s.vm → NotFace s y) (Ct : oCtr l Z h0 [] z by1 ml1 rt1 rm (.ref a :: argsL).toArray ds (oVal P2)) (hlen : ∀ sig, parseMethodDescriptor y.desc = some sig → argsL.length = sig.parameters.length) (hd : decode by0 pc = .ok (.invokevirtual index, 3)) (hr : ∀ w ds', P2 w ds' → oW p l e R s m args below meth c Z h0 P ds' cells' slots' pc' Ls (w :: S)) (hy : y.cls ≠ "java/lang/invoke/MethodHandle" ∧ y.cls ≠ "java/lang/invoke/VarHandle" := by decide) (hE : ∀ h, oMem Z h0 h ds → Exa Z h a C := by exact fun _ M => oMem.exa (i := 3) rfl M) (hst : S' = argsL.reverse ++ .ref a :: S := by exact rfl) (hsz : Ls.size = ml := by exact rfl) (hW : (S.map fun v => v.category).sum ≤ W := by exact Nat.le_of_eq rfl) (hf : rm.frames + 1 ≤ R.frames := by decide) (hl : W + (ml1 + 11) + rm.locals ≤ R.locals := by decide) (hc : cells + rm.cells ≤ R.cells := by decide) (hs : slots + rm.slots ≤ R.slots := by decide) (hc' : cells + rm.cells = cells' := by exact rfl) (hs' : slots + rm.slots = slots' := by exact rfl) (hp : pc + 3 = pc' := by exact rfl) : oW p l e R s m args below meth c Z h0 P ds cells slots pc Ls S' := by
  subst hp hst hc' hs'
  rintro T ⟨locs,X,N,M⟩
  obtain ⟨cq,kq,qa,qb,qc⟩:=isOf K.1.2.1 rfl (hE T.heap M)
  have w3' : (Jvm.Cond.selects C y z).before args s=true:=mvT K.1.2.1 w3
  obtain ⟨v,vm1,⟨T',L',k',n'⟩,-,X',⟨Lc,hQ,l',y',z'⟩,st⟩:=X.virtualBack K.1.1 K.2.1 (mvT K.1.2.1 w1) (mvT K.1.2.1 w2) (hnf s K.1.2.1) w3' (mvT K.1.2.1 w4) hy (backOf (W:=W) (Q:=fun v hp L=>Fr h0.size L∧∃ ds',(oVal P2) v ds'∧oMem Z h0 hp ds') (Ct T.heap M) K.1.2.1 w5 w6 hf hl) qa qc (g:=mkF m pc Ls (argsL.reverse ++ .ref a::S)) rfl (hsz.trans K.1.2.2.2.symm) (Steps.refl _) (argsL:=argsL) (rest:=S) hlen rfl (by show 2 * 0 + _≤_; omega) (hb K.1.2.2.1 hd) (fun _ _=>⟨rfl,rfl,hc,hs⟩)
  dsimp only [Pt.U,Pt.locs,Pt.cells,Pt.slots] at X' l' y' z' st hQ
  subst l' y' z'
  obtain ⟨N',ds',hP,M'⟩:=hQ
  obtain ⟨w,rfl,hP⟩:=hP
  exact oW.ends (fun t k=>st.trans k) (hr w ds' hP T' ⟨_,X',N.app N',M'⟩)
theorem Gu (argsL : List Value) (S : List Value) (W : Nat) (cells' : Nat) (slots' : Nat) (pc' : Nat) {y : MethodName} {index : Nat} {by1 : ByteArray} {ml1 : Nat} {rt1 : Option FieldType} {rm : Room} {P2 : oDs → Prop} (K : oK p s m meth c Z own by0 ml ret nm) (w1 : (Jvm.Cond.methodLink own index y).before a0 Z = true) (w2 : (Jvm.Cond.static y).before a0 Z = true) (w3 : (Jvm.Cond.initialized y.cls).before a0 Z = true) (w4 : (Jvm.Cond.code y by1 ml1 rt1).before a0 Z = true) (C : oCtr l Z h0 [] y by1 ml1 rt1 rm argsL.toArray ds (oVoid P2)) (hlen : ∀ sig, parseMethodDescriptor y.desc = some sig → argsL.length = sig.parameters.length) (hd : decode by0 pc = .ok (.invokestatic index, 3)) (hr : ∀ ds', P2 ds' → oW p l e R s m args below meth c Z h0 P ds' cells' slots' pc' Ls S) (hy : y.cls ≠ "java/lang/invoke/MethodHandle" ∧ y.cls ≠ "java/lang/invoke/VarHandle" := by decide) (hst : S' = argsL.reverse ++ S := by exact rfl) (hsz : Ls.size = ml := by exact rfl) (hW : (S.map fun v => v.category).sum ≤ W := by exact Nat.le_of_eq rfl) (hf : rm.frames + 1 ≤ R.frames := by decide) (hl : W + (ml1 + 11) + rm.locals ≤ R.locals := by decide) (hc : cells + rm.cells ≤ R.cells := by decide) (hs : slots + rm.slots ≤ R.slots := by decide) (hc' : cells + rm.cells = cells' := by exact rfl) (hs' : slots + rm.slots = slots' := by exact rfl) (hp : pc + 3 = pc' := by exact rfl) : oW p l e R s m args below meth c Z h0 P ds cells slots pc Ls S' := by
  subst hp hst hc' hs'
  rintro T ⟨locs,X,N,M⟩
  obtain ⟨v,vm1,⟨T',L',k',n'⟩,-,X',⟨Lc,hQ,l',y',z'⟩,st⟩:=Jvm.LawKit.callS X K.1.1 K.2.1 (mvT K.1.2.1 w1) (mvT K.1.2.1 w2) (mvT K.1.2.1 w3) (mvT K.1.2.1 w4) hy (backOf (W:=W) (Q:=fun v hp L=>Fr h0.size L∧∃ ds',(oVoid P2) v ds'∧oMem Z h0 hp ds') (C T.heap M) K.1.2.1 w4 w3 hf hl) (g:=mkF m pc Ls (argsL.reverse ++ S)) rfl (hsz.trans K.1.2.2.2.symm) (argsL:=argsL) (rest:=S) hlen rfl (by show 2 * 0 + _≤_; omega) (hb K.1.2.2.1 hd) (fun _ _=>⟨rfl,rfl,hc,hs⟩)
  dsimp only [Pt.U,Pt.locs,Pt.cells,Pt.slots] at X' l' y' z' st hQ
  subst l' y' z'
  obtain ⟨N',ds',hP,M'⟩:=hQ
  obtain ⟨rfl,hP⟩:=hP
  exact oW.ends st (hr ds' hP T' ⟨_,X',N.app N',M'⟩)
theorem H4 (a : Addr) (argsL : List Value) (S : List Value) (W : Nat) (cells' : Nat) (slots' : Nat) (pc' : Nat) {y : MethodName} {index : Nat} {by1 : ByteArray} {ml1 : Nat} {rm : Room} {P2 : oDs → Prop} (K : oK p s m meth c Z own by0 ml ret nm) (w1 : (Jvm.Cond.methodLink own index y).before a0 Z = true) (w2 : (Jvm.Cond.instanceMethod y).before a0 Z = true) (w3 : (Jvm.Cond.initialized y.cls).before a0 Z = true) (w4 : (Jvm.Cond.code y by1 ml1 none).before a0 Z = true) (C : oCtr l Z h0 [] y by1 ml1 none rm (.ref a :: argsL).toArray ds (oVoid P2)) (hlen : ∀ sig, parseMethodDescriptor y.desc = some sig → argsL.length = sig.parameters.length) (hd : decode by0 pc = .ok (.invokespecial index, 3)) (hr : ∀ ds', P2 ds' → oW p l e R s m args below meth c Z h0 P ds' cells' slots' pc' Ls S) (hin : y.name = "<init>" := by exact rfl) (hy : y.cls ≠ "java/lang/invoke/MethodHandle" ∧ y.cls ≠ "java/lang/invoke/VarHandle" := by decide) (hst : S' = argsL.reverse ++ .ref a :: S := by exact rfl) (hsz : Ls.size = ml := by exact rfl) (hW : (S.map fun v => v.category).sum ≤ W := by exact Nat.le_of_eq rfl) (hf : rm.frames + 1 ≤ R.frames := by decide) (hl : W + (ml1 + 11) + rm.locals ≤ R.locals := by decide) (hc : cells + rm.cells ≤ R.cells := by decide) (hs : slots + rm.slots ≤ R.slots := by decide) (hc' : cells + rm.cells = cells' := by exact rfl) (hs' : slots + rm.slots = slots' := by exact rfl) (hp : pc + 3 = pc' := by exact rfl) : oW p l e R s m args below meth c Z h0 P ds cells slots pc Ls S' := by
  subst hp hst hc' hs'
  rintro T ⟨locs,X,N,M⟩
  obtain ⟨v,vm1,⟨T',L',k',n'⟩,-,X',⟨Lc,hQ,l',y',z'⟩,st⟩:=X.specialBack K.1.1 hin K.2.1 (mvT K.1.2.1 w1) (mvT K.1.2.1 w2) (mvT K.1.2.1 w4) hy (backOf (W:=W) (Q:=fun v hp L=>Fr h0.size L∧∃ ds',(oVoid P2) v ds'∧oMem Z h0 hp ds') (C T.heap M) K.1.2.1 w4 w3 hf hl) (g:=mkF m pc Ls (argsL.reverse ++ .ref a::S)) rfl (hsz.trans K.1.2.2.2.symm) (Steps.refl _) (a:=a) (argsL:=argsL) (rest:=S) hlen rfl (by show 2 * 0 + _≤_; omega) (hb K.1.2.2.1 hd) (fun _ _=>⟨rfl,rfl,hc,hs⟩)
  dsimp only [Pt.U,Pt.locs,Pt.cells,Pt.slots] at X' l' y' z' st hQ
  subst l' y' z'
  obtain ⟨N',ds',hP,M'⟩:=hQ
  obtain ⟨rfl,hP⟩:=hP
  exact oW.ends (fun t k=>st.trans k) (hr ds' hP T' ⟨_,X',N.app N',M'⟩)
theorem Y7 (a : Addr) (argsL : List Value) (S : List Value) (W : Nat) (cells' : Nat) (slots' : Nat) (pc' : Nat) {y z : MethodName} {C : String} {index : Nat} {by1 : ByteArray} {ml1 : Nat} {rt1 : Option FieldType} {rm : Room} {P2 : oDs → Prop} (K : oK p s m meth c Z own by0 ml ret nm) (w1 : (Jvm.Cond.methodLink own index y).before a0 Z = true) (w2 : (Jvm.Cond.declares y).before a0 Z = true) (w3 : (Jvm.Cond.selects C y z).before a0 Z = true) (w4 : (Jvm.Cond.instanceMethod z).before a0 Z = true) (w5 : (Jvm.Cond.code z by1 ml1 rt1).before a0 Z = true) (w6 : (Jvm.Cond.initialized z.cls).before a0 Z = true) (hnf : ∀ s : State, Z.Warmed39 s.vm → NotFace s y) (Ct : oCtr l Z h0 [] z by1 ml1 rt1 rm (.ref a :: argsL).toArray ds (oVoid P2)) (hlen : ∀ sig, parseMethodDescriptor y.desc = some sig → argsL.length = sig.parameters.length) (hd : decode by0 pc = .ok (.invokevirtual index, 3)) (hr : ∀ ds', P2 ds' → oW p l e R s m args below meth c Z h0 P ds' cells' slots' pc' Ls S) (hy : y.cls ≠ "java/lang/invoke/MethodHandle" ∧ y.cls ≠ "java/lang/invoke/VarHandle" := by decide) (hE : ∀ h, oMem Z h0 h ds → Exa Z h a C := by exact fun _ M => oMem.exa (i := 3) rfl M) (hst : S' = argsL.reverse ++ .ref a :: S := by exact rfl) (hsz : Ls.size = ml := by exact rfl) (hW : (S.map fun v => v.category).sum ≤ W := by exact Nat.le_of_eq rfl) (hf : rm.frames + 1 ≤ R.frames := by decide) (hl : W + (ml1 + 11) + rm.locals ≤ R.locals := by decide) (hc : cells + rm.cells ≤ R.cells := by decide) (hs : slots + rm.slots ≤ R.slots := by decide) (hc' : cells + rm.cells = cells' := by exact rfl) (hs' : slots + rm.slots = slots' := by exact rfl) (hp : pc + 3 = pc' := by exact rfl) : oW p l e R s m args below meth c Z h0 P ds cells slots pc Ls S' := by
  subst hp hst hc' hs'
  rintro T ⟨locs,X,N,M⟩
  obtain ⟨cq,kq,qa,qb,qc⟩:=isOf K.1.2.1 rfl (hE T.heap M)
  have w3' : (Jvm.Cond.selects C y z).before args s=true:=mvT K.1.2.1 w3
  obtain ⟨v,vm1,⟨T',L',k',n'⟩,-,X',⟨Lc,hQ,l',y',z'⟩,st⟩:=X.virtualBack K.1.1 K.2.1 (mvT K.1.2.1 w1) (mvT K.1.2.1 w2) (hnf s K.1.2.1) w3' (mvT K.1.2.1 w4) hy (backOf (W:=W) (Q:=fun v hp L=>Fr h0.size L∧∃ ds',(oVoid P2) v ds'∧oMem Z h0 hp ds') (Ct T.heap M) K.1.2.1 w5 w6 hf hl) qa qc (g:=mkF m pc Ls (argsL.reverse ++ .ref a::S)) rfl (hsz.trans K.1.2.2.2.symm) (Steps.refl _) (argsL:=argsL) (rest:=S) hlen rfl (by show 2 * 0 + _≤_; omega) (hb K.1.2.2.1 hd) (fun _ _=>⟨rfl,rfl,hc,hs⟩)
  dsimp only [Pt.U,Pt.locs,Pt.cells,Pt.slots] at X' l' y' z' st hQ
  subst l' y' z'
  obtain ⟨N',ds',hP,M'⟩:=hQ
  obtain ⟨rfl,hP⟩:=hP
  exact oW.ends (fun t k=>st.trans k) (hr ds' hP T' ⟨_,X',N.app N',M'⟩)
theorem oNF {C : String} {y : MethodName} (w : (Jvm.Cond.selects C y y).before a0 Z = true) : ∀ s : State, Z.Warmed39 s.vm → NotFace s y := fun s hZ => notFace_of_selects (args := #[]) (mvT hZ w)
theorem oMem.exa {h : Heap} {i : Nat} {a : Addr} {C : String} {fs : List (String × String × String × Value)} (hi : ds[i]? = some (a, .inr (C, fs))) (M : oMem Z h0 h ds) : Exa Z h a C := (M.2.2 i _ hi).2.1
theorem oW.pick (idx : List Nat) (hn : idx.Nodup) (e0 : ds'.map some = idx.map fun k => ds[k]?) (hr : oW p l e R s m args below meth c Z h0 P ds' cells slots pc Ls S) : oW p l e R s m args below meth c Z h0 P ds cells slots pc Ls S := by
  rintro T ⟨locs, X, N, M⟩
  exact hr T ⟨locs, X, N, M.pick idx hn e0⟩
theorem Gn (i : Nat) (k : Nat) (pc' : Nat) {a : Addr} {vs : List Value} {j : Int32} {v : Value} (K : oK p s m meth c Z own by0 ml ret nm) (hd : decode by0 pc=.ok (.baload,1)) (hr : oW p l e R s m args below meth c Z h0 P ds cells slots pc' Ls (v::S)) (hi : ds[i]?=some (a,.inl (.boolean,vs)):=by exact rfl) (hj : j=Int32.ofNat k:=by exact rfl) (hk : k < 2 ^ 31:=by decide) (hv : vs[k]?=some v:=by exact rfl) (hp : pc + 1=pc':=by exact rfl) : oW p l e R s m args below meth c Z h0 P ds cells slots pc Ls (.int j::.ref a::S):=by
  subst hp
  rintro T ⟨locs,X,N,M⟩
  obtain ⟨cl,A,hs,-⟩:=(M.2.2 i _ hi).2
  obtain ⟨q1,q2⟩:=oLen hj hk hv hs
  exact oW.ends (fun t k=>X.baloadBooleans K.1.1 A.1 (State.isArrayOf_alike K.1.2.1.alike A.2.1) A.2.2 q1 q2 (g:=mkF m pc Ls (.int j::.ref a::S)) rfl rfl (hb K.1.2.2.1 hd) t k) (hr T ⟨locs,X,N,M⟩)
theorem Gy (i : Nat) (k : Nat) (v : Value) (pc' : Nat) {a : Addr} {vs : List Value} {j x : Int32} (K : oK p s m meth c Z own by0 ml ret nm) (hd : decode by0 pc=.ok (.bastore,1)) (hi : ds[i]?=some (a,.inl (.boolean,vs))) (hds : ds.set i (a,.inl (.boolean,vs.set k v))=ds') (hr : oW p l e R s m args below meth c Z h0 P ds' cells slots pc' Ls S) (hj : j=Int32.ofNat k:=by exact rfl) (hk : k < 2 ^ 31:=by decide) (hl : k < vs.length:=by exact Nat.lt_of_sub_eq_succ rfl) (hx : v=.int (nar .boolean x):=by exact rfl) (hp : pc + 1=pc':=by exact rfl) : oW p l e R s m args below meth c Z h0 P ds cells slots pc Ls (.int x::.int j::.ref a::S):=by
  subst hp hds hx
  rintro T ⟨locs,X,N,M⟩
  obtain ⟨ha,cl,A,hs,hE,hO⟩:=M.2.2 i _ hi
  obtain ⟨q1,q2⟩:=oLen hj hk (List.getElem?_eq_getElem hl) hs
  obtain ⟨T',h',X',e',Wr',st⟩:=stZ X K.1.1 K.1.2.1 rfl A (x:=x) q1 (g:=mkF m pc Ls (.int x::.int j::.ref a::S)) rfl rfl (hb K.1.2.2.1 hd)
  have ek : j.toNatClampNeg=k:=by subst hj; exact Int32.toNatClampNeg_ofNat_of_lt hk
  refine oW.ends st (hr T' ⟨_,X',Fr.snoc X' N ha,?_⟩)
  rw [e']
  refine M.put hi Wr' ⟨_,A.same Wr',?_,hE.wr Wr',hO⟩
  rw [ek]; simp [Cell.setSlot,hs]
theorem Gz (i : Nat) (k : Nat) (pc' : Nat) {a : Addr} {ty : FieldType} {vs : List Value} {j : Int32} {v : Value} (K : oK p s m meth c Z own by0 ml ret nm) (hd : decode by0 pc=.ok (.aaload,1)) (hr : oW p l e R s m args below meth c Z h0 P ds cells slots pc' Ls (v::S)) (hi : ds[i]?=some (a,.inl (ty,vs)):=by exact rfl) (hj : j=Int32.ofNat k:=by exact rfl) (hk : k < 2 ^ 31:=by decide) (hv : vs[k]?=some v:=by exact rfl) (hp : pc + 1=pc':=by exact rfl) (hty : ty.isReference=true:=by exact rfl) : oW p l e R s m args below meth c Z h0 P ds cells slots pc Ls (.int j::.ref a::S):=by
  subst hp
  rintro T ⟨locs,X,N,M⟩
  obtain ⟨cl,A,hs,-⟩:=(M.2.2 i _ hi).2
  obtain ⟨q1,q2⟩:=oLen hj hk hv hs
  exact oW.ends (fun t k=>X.aaload K.1.1 A.1 (State.isArrayOf_alike K.1.2.1.alike A.2.1) hty A.2.2 q1 q2 (g:=mkF m pc Ls (.int j::.ref a::S)) rfl rfl (hb K.1.2.2.1 hd) t k) (hr T ⟨locs,X,N,M⟩)
theorem Hs (i : Nat) (k : Nat) (pc' : Nat) {a : Addr} {ty : FieldType} {vs : List Value} {j : Int32} (K : oK p s m meth c Z own by0 ml ret nm) (hd : decode by0 pc=.ok (.aastore,1)) (hty : ty.isReference=true) (hds : ds.set i (a,.inl (ty,vs.set k .null))=ds') (hr : oW p l e R s m args below meth c Z h0 P ds' cells slots pc' Ls S) (hi : ds[i]?=some (a,.inl (ty,vs)):=by exact rfl) (hj : j=Int32.ofNat k:=by exact rfl) (hk : k < 2 ^ 31:=by decide) (hl : k < vs.length:=by exact Nat.lt_of_sub_eq_succ rfl) (hp : pc + 1=pc':=by exact rfl) : oW p l e R s m args below meth c Z h0 P ds cells slots pc Ls (.null::.int j::.ref a::S):=by
  subst hp hds
  rintro T ⟨locs,X,N,M⟩
  obtain ⟨ha,cl,A,hs,hE,hO⟩:=M.2.2 i _ hi
  obtain ⟨q1,q2⟩:=oLen hj hk (List.getElem?_eq_getElem hl) hs
  obtain ⟨T',h',X',e',Wr',st⟩:=stR X K.1.1 K.1.2.1 rfl A (v:=.null) q1 hty (Or.inl rfl) (g:=mkF m pc Ls (.null::.int j::.ref a::S)) rfl rfl (hb K.1.2.2.1 hd)
  have ek : j.toNatClampNeg=k:=by subst hj; exact Int32.toNatClampNeg_ofNat_of_lt hk
  refine oW.ends st (hr T' ⟨_,X',Fr.snoc X' N ha,?_⟩)
  rw [e']
  refine M.put hi Wr' ⟨_,A.same Wr',?_,hE.wr Wr',hO⟩
  rw [ek]; simp [Cell.setSlot,hs]
theorem Go (i : Nat) (i2 : Nat) (k : Nat) (pc' : Nat) {a y : Addr} {ty : FieldType} {C : String} {vs us : List Value} {j : Int32} (K : oK p s m meth c Z own by0 ml ret nm) (hd : decode by0 pc = .ok (.aastore, 1)) (hi : ds[i]? = some (a, .inl (.array ty, vs))) (hds : ds.set i (a, .inl (.array ty, vs.set k (.ref y))) = ds') (hr : oW p l e R s m args below meth c Z h0 P ds' cells slots pc' Ls S) (hi2 : ds[i2]? = some (y, .inl (ty, us)) := by exact rfl) (hC : (FieldType.array ty).toString = C := by exact rfl) (hC2 : "[" ++ ty.toString = C := by exact rfl) (hj : j = Int32.ofNat k := by exact rfl) (hk : k < 2 ^ 31 := by decide) (hl : k < vs.length := by exact Nat.lt_of_sub_eq_succ rfl) (hp : pc + 1 = pc' := by exact rfl) : oW p l e R s m args below meth c Z h0 P ds cells slots pc Ls (.ref y :: .int j :: .ref a :: S) := by
  subst hp hds
  rintro T ⟨locs,X,N,M⟩
  obtain ⟨ha,cl,A,hs,hE,hO⟩:=M.2.2 i _ hi
  obtain ⟨-,cl2,A2,hs2,hE2,hO2⟩:=M.2.2 i2 _ hi2
  obtain ⟨q1,q2⟩:=oLen hj hk (List.getElem?_eq_getElem hl) hs
  have hO':=hO ty rfl
  rw [hC] at hO'
  rw [hC2] at hE2
  obtain ⟨T',h',X',e',Wr',st⟩:=stR X K.1.1 K.1.2.1 rfl A (v:=.ref y) q1 rfl (Sto.ofVA A rfl hO' (Ins.self hE2)) (g:=mkF m pc Ls (.ref y::.int j::.ref a::S)) rfl rfl (hb K.1.2.2.1 hd)
  have ek : j.toNatClampNeg=k:=by subst hj; exact Int32.toNatClampNeg_ofNat_of_lt hk
  refine oW.ends st (hr T' ⟨_,X',Fr.snoc X' N ha,?_⟩)
  rw [e']
  refine M.put hi Wr' ⟨_,A.same Wr',?_,hE.wr Wr',hO⟩
  rw [ek]; simp [Cell.setSlot,hs]
theorem H5 (n : Nat) (cells' : Nat) (slots' : Nat) (dsf : Addr→oDs) (pc' : Nat) {index : Nat} {ty : FieldType} {C : String} {j : Int32} (K : oK p s m meth c Z own by0 ml ret nm) (w1 : (Jvm.Cond.classLink own index C).before a0 Z=true) (w2 : (Jvm.Cond.arrayOver (.array ty)).before a0 Z=true) (hd : decode by0 pc=.ok (.anewarray index,3)) (hr : ∀ a : Addr,h0.size≤a→oW p l e R s m args below meth c Z h0 P (dsf a) cells' slots' pc' Ls (.ref a::S)) (hC : (FieldType.array ty).toString=C:=by exact rfl) (hj : j=Int32.ofNat n:=by exact rfl) (hn : n < 2 ^ 31:=by decide) (hb8 : n * 8≤536870912:=by decide) (hc : cells + 1≤R.cells:=by decide) (hs : slots + n≤R.slots:=by decide) (hc' : cells + 1=cells':=by exact rfl) (hs' : slots + n=slots':=by exact rfl) (hds : ∀ a,ds ++ [(a,.inl (.array ty,List.replicate n .null))]=dsf a:=by exact fun _=>rfl) (hp : pc + 3=pc':=by exact rfl) : oW p l e R s m args below meth c Z h0 P ds cells slots pc Ls (.int j::S):=by
  subst hp hc' hs'
  rintro T ⟨locs,X,N,M⟩
  have ej : j.toNatClampNeg=n:=by subst hj; exact Int32.toNatClampNeg_ofNat_of_lt hn
  have hC' : "[" ++ C = "[" ++ (FieldType.array ty).toString := by rw [hC]
  obtain ⟨T',h',k,X',e',E',A',Ex',O',st⟩:=newRA X K.1.1 K.1.2.1 K.2.1 hC w1 w2 rfl (g:=mkF m pc Ls (.int j::S)) rfl (hb K.1.2.2.1 hd) rfl (by subst hj; exact Int32.ofNat_not_neg hn) (cap:=n) (Nat.le_of_eq ej) hb8 hc hs (had:=hC')
  refine oW.ends st (hr T.heap.size M.1.1 T' ⟨_,X',N,?_⟩)
  rw [e',← hds]
  refine M.push E' ⟨_,A',?_,Ex',fun t q=>?_⟩
  · simp [newA,ej,defaultValue]
  · cases q; rw [hC]; exact O'
theorem G3 (pc' : Nat) {x : UInt64} {v : Int32} (K : oK p s m meth c Z own by0 ml ret nm) (hd : decode by0 pc=.ok (.d2i,1)) (hv : v=FP.d2i x) (hr : oW p l e R s m args below meth c Z h0 P ds cells slots pc' Ls (.int v::S)) (hp : pc + 1=pc':=by exact rfl) : oW p l e R s m args below meth c Z h0 P ds cells slots pc Ls (.double x::S):=by
  subst hp hv
  exact oW.pure (fun T locs X t k=>XS.d2iS X.here K.1.1 rfl (hb K.1.2.2.1 hd) rfl rfl k) hr
theorem oSelf {y y' : MethodName} (w : (Jvm.Cond.selects y'.cls y' y').before a0 Z = true) (hc : y.cls = y'.cls) (wi : (Jvm.Cond.instanceMethod y).before a0 Z = true) (wp : (Jvm.Cond.privateMethod y).before a0 Z = true) (hy : y.cls ≠ "java/lang/invoke/MethodHandle" ∧ y.cls ≠ "java/lang/invoke/VarHandle") {s : State} (hZ : Z.Warmed39 s.vm) : (Jvm.Cond.selects y.cls y y).before args s = true := by
  obtain ⟨c2, r2, m2, q1, q2, q3, q4, kP, hkP, hkPi⟩ := Cond.selects_spec (mvT (args := args) hZ w)
  have e2 := findClass_of_methodNamed q3
  exact Jvm.Stand.selects_self_of_private (by rw [hc]; exact e2) hkP hkPi (Cond.privateMethod_at (mvP hZ wp (args := args))) (mvT hZ wi) hy
theorem oArv {h : Heap} {a : Addr} {xs : List Int64} (A : oAt Z h a (.inl (.long, xs.map .long))) (hn : xs.length < 2 ^ 31) : ∃ k, Arv Z h a k .long (Int32.ofNat xs.length) (xs.map .long) (.long 0) := by
  obtain ⟨c, A, hs, -⟩ := A
  have e : (Int32.ofNat xs.length).toNatClampNeg = xs.length := Int32.toNatClampNeg_ofNat_of_lt hn
  have g : ∀ i, i < xs.length → (xs.map Value.long).getD i (.long 0) = .long (xs.getD i 0) := fun i hi => by
    simp [List.getD, hi]
  refine ⟨c.cls, c, A, rfl, by rw [hs, e]; simp, Int32.ofNat_not_neg hn, fun k hk => ?_, fun i hi => ?_⟩
  · rw [hs] at hk ⊢
    have hk' : k < xs.length := by simpa using hk
    rw [g k hk']; simp [List.getD, hk']
  · rw [hs] at hi
    rw [g i (by simpa using hi)]; rfl
theorem oW.copyJ (K : oK p s m meth c Z own by0 ml ret nm) {index W i1 i2 : Nat} {a b : Addr} {xs us : List Int64} {z1 z2 nn : Int32} (w1 : (Jvm.Cond.methodLink own index Jvm.Stand.acN).before a0 Z = true) (w2 : (Jvm.Cond.native Jvm.Stand.acN).before a0 Z = true) (w3 : (Jvm.Cond.static Jvm.Stand.acN).before a0 Z = true) (w4 : (Jvm.Cond.initialized "java/lang/System").before a0 Z = true) (hd : decode by0 pc = .ok (.invokestatic index, 3)) (hi1 : ds[i1]? = some (a, .inl (.long, xs.map .long))) (hi2 : ds[i2]? = some (b, .inl (.long, us.map .long))) (h1 : z1 = 0) (h2 : z2 = 0) (h3 : nn = Int32.ofNat xs.length) (hl1 : xs.length ≤ us.length) (hl2 : us.length < 2 ^ 31) (hds : ds.set i2 (b, .inl (.long, (xs ++ us.drop xs.length).map .long)) = ds') (hsz : Ls.size = ml) (hf : 1 ≤ R.frames) (hW : (S.map fun v => v.category).sum ≤ W) (hl : W + 40 ≤ R.locals) (hp : pc + 3 = pc') (hr : oW p l e R s m args below meth c Z h0 P ds' cells slots pc' Ls S) : oW p l e R s m args below meth c Z h0 P ds cells slots pc Ls (.int nn :: .int z2 :: .ref b :: .int z1 :: .ref a :: S) := by
  subst hp hds h1 h2 h3
  rintro T ⟨locs, X, N, M⟩
  obtain ⟨M1, M2, M3⟩ := M
  obtain ⟨ha, A0⟩ := M3 i1 _ hi1
  obtain ⟨hbb, B0⟩ := M3 i2 _ hi2
  obtain ⟨k1, A⟩ := oArv A0 (by omega)
  obtain ⟨k2, B⟩ := oArv B0 hl2
  have e1 : (Int32.ofNat xs.length).toNatClampNeg = xs.length := Int32.toNatClampNeg_ofNat_of_lt (by omega)
  have e2 : (Int32.ofNat us.length).toNatClampNeg = us.length := Int32.toNatClampNeg_ofNat_of_lt hl2
  have e0 : (0 : Int32).toNatClampNeg = 0 := by decide
  have nf : nativeFrameWords "java/lang/System" "arraycopy" 5 + 11 ≤ 40 := by decide +kernel
  obtain ⟨T', h', L, X', e', N', Kp, B', st⟩ := cpA X K.1.1 K.1.2.1 K.2.1 w1 w2 w3 w4 rfl A B (us := xs.map .long) (Or.inl ⟨rfl, rfl⟩) (sp := 0) (dp := 0) (nn := Int32.ofNat xs.length) (by decide) (by decide) (Int32.ofNat_not_neg (by omega)) (by rw [e0, e1]; omega) (by rw [e0, e1, e2]; omega) (by
    rw [e0, e1]
    refine List.ext_getElem (by simp) fun i q1 q2 => ?_
    have q3 : i < xs.length := by simpa using q1
    simp [List.getD, q3]) (by rw [e0, e1]; simp; omega) N hbb (g := mkF m pc Ls (.int (Int32.ofNat xs.length) :: .int 0 :: .ref b :: .int 0 :: .ref a :: S)) rfl (hsz.trans K.1.2.2.2.symm) rfl (hb K.1.2.2.1 hd) hf (W := W) (by show 2 * 0 + _ ≤ _; omega) (by omega)
  refine oW.ends st (hr T' ⟨_, X', N', ?_⟩)
  rw [e']
  have hlt : i2 < ds.length := (List.getElem?_eq_some_iff.mp hi2).1
  have at' : ∀ (x : Addr) (d : oDsc), x ≠ b → oAt Z T.heap x d → oAt Z h' x d := fun x d hx A => by
    have hk : ∀ c : Cell, T.heap[x]? = some c → h'[x]? = some c := fun c q => Kp.2.1 x c q (by simpa using hx)
    rcases d with ⟨ty, vs⟩ | ⟨C, fs⟩
    · obtain ⟨c, A, r1, ⟨cc, kc, s1, s2⟩, r3⟩ := A
      exact ⟨c, ⟨hk _ A.1, A.2⟩, r1, ⟨cc, kc, hk _ s1, s2⟩, r3⟩
    · obtain ⟨⟨cc, kc, s1, s2⟩, F⟩ := A
      refine ⟨⟨cc, kc, hk _ s1, s2⟩, fun f hf => ?_⟩
      obtain ⟨c1, c2, c3, c4, c5, c6, c7⟩ := F f hf
      exact ⟨c1, c2, c3, c4, c5, hk _ c6, c7⟩
  refine ⟨⟨Nat.le_trans M1.1 Kp.1, fun x c q => ?_⟩, fun j k x y hjk hj hk => ?_, fun j x hx => ?_⟩
  · exact Kp.2.1 x c (M1.2 x c q) (by
      have : x ≠ b := Nat.ne_of_lt (Nat.lt_of_lt_of_le (Array.getElem?_eq_some_iff.mp q).1 hbb)
      simpa using this)
  · have fst : ∀ (j : Nat) (x : Addr × oDsc), (ds.set i2 (b, .inl (.long, (xs ++ us.drop xs.length).map .long)))[j]? = some x → ∃ y : Addr × oDsc, ds[j]? = some y ∧ y.1 = x.1 := fun j x hx => by
      rw [List.getElem?_set] at hx
      split at hx
      · rename_i e; subst e; cases hx; exact ⟨_, hi2, rfl⟩
      · exact ⟨x, hx, rfl⟩
    obtain ⟨x', hx', ex⟩ := fst j x hj
    obtain ⟨y', hy', ey⟩ := fst k y hk
    rw [← ex, ← ey]; exact M2 j k x' y' hjk hx' hy'
  · rw [List.getElem?_set] at hx
    split at hx
    · rename_i e; subst e
      cases hx
      refine ⟨hbb, ?_⟩
      obtain ⟨c, A', q1, q2, q3, q4, q5⟩ := B'
      obtain ⟨c0, A00, r1, ⟨cc, kc, s1, s2, s3, s4, s5⟩, r3⟩ := B0
      rw [e0, e1] at q4
      refine ⟨c, A', ?_, ?_, fun t q => nomatch q⟩
      · apply Array.ext
        · rw [q2, e2]; simp; omega
        · intro i p1 p2
          have p3 : i < us.length := by rw [q2, e2] at p1; exact p1
          have := q4 i p1
          rw [Array.getElem?_eq_getElem p1] at this
          rw [Option.some.inj this]
          simp only [List.take_zero, List.nil_append, Nat.zero_add, List.getElem_toArray]
          by_cases q : i < xs.length
          · simp [List.getD, List.getElem?_append, q, List.getElem_append]
          · have q' : i - xs.length < us.length - xs.length := by omega
            simp [List.getD, List.getElem?_append, q, List.getElem_append, q', show xs.length + (i - xs.length) = i by omega]
      · obtain ⟨c', t1, t2, t3, t4⟩ := Kp.2.2 b cc s1
        have tc := t1.symm.trans A'.1
        exact ⟨c', kc, t1, by rw [t2]; exact s2, by rw [t2]; exact s3, by rw [t3]; exact s4, fun q => by rw [t4]; exact s5 q⟩
    · rename_i e
      exact ⟨(M3 j x hx).1, at' _ _ (M2 j i2 x _ (fun q => e q.symm) hx hi2) (M3 j x hx).2⟩
theorem oW.laloadJ (K : oK p s m meth c Z own by0 ml ret nm) {i k : Nat} {a : Addr} {xs : List Int64} {j : Int32} {x : Int64} (hd : decode by0 pc = .ok (.laload, 1)) (hi : ds[i]? = some (a, .inl (.long, xs.map .long))) (hj : j = Int32.ofNat k) (hk : k < 2 ^ 31) (hv : xs[k]? = some x) (hp : pc + 1 = pc') (hr : oW p l e R s m args below meth c Z h0 P ds cells slots pc' Ls (.long x :: S)) : oW p l e R s m args below meth c Z h0 P ds cells slots pc Ls (.int j :: .ref a :: S) :=
  oW.laload K hd hi hj hk (by rw [List.getElem?_map, hv]; rfl) hp hr
theorem oW.lastoreJ (K : oK p s m meth c Z own by0 ml ret nm) {i k : Nat} {a : Addr} {xs : List Int64} {j : Int32} {x : Int64} (hd : decode by0 pc = .ok (.lastore, 1)) (hi : ds[i]? = some (a, .inl (.long, xs.map .long))) (hj : j = Int32.ofNat k) (hk : k < 2 ^ 31) (hl : k < xs.length) (hds : ds.set i (a, .inl (.long, (xs.set k x).map .long)) = ds') (hp : pc + 1 = pc') (hr : oW p l e R s m args below meth c Z h0 P ds' cells slots pc' Ls S) : oW p l e R s m args below meth c Z h0 P ds cells slots pc Ls (.long x :: .int j :: .ref a :: S) :=
  oW.lastore K hd hi hj hk (by rw [List.length_map]; exact hl) (by rw [← hds, List.map_set]) hp hr

theorem Ge (a : Addr) (y' : MethodName) (argsL : List Value) (S : List Value) (W : Nat) (cells' : Nat) (slots' : Nat) (pc' : Nat) {y : MethodName} {C : String} {index : Nat} {by1 : ByteArray} {ml1 : Nat} {rt1 : Option FieldType} {rm : Room} {P2 : oDs → Prop} (K : oK p s m meth c Z own by0 ml ret nm) (w1 : (Jvm.Cond.methodLink own index y).before a0 Z = true) (w2 : (Jvm.Cond.privateMethod y).before a0 Z = true) (w3 : (Jvm.Cond.selects y'.cls y' y').before a0 Z = true) (w4 : (Jvm.Cond.instanceMethod y).before a0 Z = true) (w5 : (Jvm.Cond.code y by1 ml1 rt1).before a0 Z = true) (w6 : (Jvm.Cond.initialized y.cls).before a0 Z = true) (Ct : oCtr l Z h0 [] y by1 ml1 rt1 rm (.ref a :: argsL).toArray ds (oVoid P2)) (hlen : ∀ sig, parseMethodDescriptor y.desc = some sig → argsL.length = sig.parameters.length) (hd : decode by0 pc = .ok (.invokevirtual index, 3)) (hr : ∀ ds', P2 ds' → oW p l e R s m args below meth c Z h0 P ds' cells' slots' pc' Ls S) (hcc : y.cls = y'.cls := by exact rfl) (hy : y.cls ≠ "java/lang/invoke/MethodHandle" ∧ y.cls ≠ "java/lang/invoke/VarHandle" := by decide) (hE : ∀ h, oMem Z h0 h ds → Exa Z h a C := by exact fun _ M => oMem.exa (i := 3) rfl M) (hst : S' = argsL.reverse ++ .ref a :: S := by exact rfl) (hsz : Ls.size = ml := by exact rfl) (hW : (S.map fun v => v.category).sum ≤ W := by exact Nat.le_of_eq rfl) (hf : rm.frames + 1 ≤ R.frames := by decide) (hl : W + (ml1 + 11) + rm.locals ≤ R.locals := by decide) (hc : cells + rm.cells ≤ R.cells := by decide) (hs : slots + rm.slots ≤ R.slots := by decide) (hc' : cells + rm.cells = cells' := by exact rfl) (hs' : slots + rm.slots = slots' := by exact rfl) (hp : pc + 3 = pc' := by exact rfl) : oW p l e R s m args below meth c Z h0 P ds cells slots pc Ls S' := by
  subst hp hst hc' hs'
  rintro T ⟨locs,X,N,M⟩
  obtain ⟨cell,kq,q1,q2,q3,q4,q5⟩:=hE T.heap M
  obtain ⟨v,vm1,⟨T',L',k',n'⟩,-,X',⟨Lc,hQ,l',y',z'⟩,st⟩:=X.privateBack K.1.1 K.2.1 (mvT K.1.2.1 w1) (mvT K.1.2.1 w4) (oSelf w3 hcc w4 w2 hy K.1.2.1) (Cond.privateMethod_at (mvP K.1.2.1 w2 (args:=args))) (mvT K.1.2.1 w5) hy (backOf (W:=W) (Q:=fun v hp L=>Fr h0.size L∧∃ ds',(oVoid P2) v ds'∧oMem Z h0 hp ds') (Ct T.heap M) K.1.2.1 w5 w6 hf hl) (g:=mkF m pc Ls (argsL.reverse ++ .ref a::S)) rfl (hsz.trans K.1.2.2.2.symm) (Steps.refl _) q1 (fun q z=>by rw [z] at q4; cases q4) (argsL:=argsL) (rest:=S) hlen rfl (by show 2 * 0 + _≤_; omega) (hb K.1.2.2.1 hd) (fun _ _=>⟨rfl,rfl,hc,hs⟩)
  dsimp only [Pt.U,Pt.locs,Pt.cells,Pt.slots] at X' l' y' z' st hQ
  subst l' y' z'
  obtain ⟨N',ds',hP,M'⟩:=hQ
  obtain ⟨rfl,hP⟩:=hP
  exact oW.ends (fun t k=>st.trans k) (hr ds' hP T' ⟨_,X',N.app N',M'⟩)
theorem Gk (a : Addr) (y' : MethodName) (argsL : List Value) (S : List Value) (W : Nat) (cells' : Nat) (slots' : Nat) (pc' : Nat) {y : MethodName} {C : String} {index : Nat} {by1 : ByteArray} {ml1 : Nat} {rt1 : Option FieldType} {rm : Room} {P2 : Value → oDs → Prop} (K : oK p s m meth c Z own by0 ml ret nm) (w1 : (Jvm.Cond.methodLink own index y).before a0 Z = true) (w2 : (Jvm.Cond.privateMethod y).before a0 Z = true) (w3 : (Jvm.Cond.selects y'.cls y' y').before a0 Z = true) (w4 : (Jvm.Cond.instanceMethod y).before a0 Z = true) (w5 : (Jvm.Cond.code y by1 ml1 rt1).before a0 Z = true) (w6 : (Jvm.Cond.initialized y.cls).before a0 Z = true) (Ct : oCtr l Z h0 [] y by1 ml1 rt1 rm (.ref a :: argsL).toArray ds (oVal P2)) (hlen : ∀ sig, parseMethodDescriptor y.desc = some sig → argsL.length = sig.parameters.length) (hd : decode by0 pc = .ok (.invokevirtual index, 3)) (hr : ∀ w ds', P2 w ds' → oW p l e R s m args below meth c Z h0 P ds' cells' slots' pc' Ls (w :: S)) (hcc : y.cls = y'.cls := by exact rfl) (hy : y.cls ≠ "java/lang/invoke/MethodHandle" ∧ y.cls ≠ "java/lang/invoke/VarHandle" := by decide) (hE : ∀ h, oMem Z h0 h ds → Exa Z h a C := by exact fun _ M => oMem.exa (i := 3) rfl M) (hst : S' = argsL.reverse ++ .ref a :: S := by exact rfl) (hsz : Ls.size = ml := by exact rfl) (hW : (S.map fun v => v.category).sum ≤ W := by exact Nat.le_of_eq rfl) (hf : rm.frames + 1 ≤ R.frames := by decide) (hl : W + (ml1 + 11) + rm.locals ≤ R.locals := by decide) (hc : cells + rm.cells ≤ R.cells := by decide) (hs : slots + rm.slots ≤ R.slots := by decide) (hc' : cells + rm.cells = cells' := by exact rfl) (hs' : slots + rm.slots = slots' := by exact rfl) (hp : pc + 3 = pc' := by exact rfl) : oW p l e R s m args below meth c Z h0 P ds cells slots pc Ls S' := by
  subst hp hst hc' hs'
  rintro T ⟨locs,X,N,M⟩
  obtain ⟨cell,kq,q1,q2,q3,q4,q5⟩:=hE T.heap M
  obtain ⟨v,vm1,⟨T',L',k',n'⟩,-,X',⟨Lc,hQ,l',y',z'⟩,st⟩:=X.privateBack K.1.1 K.2.1 (mvT K.1.2.1 w1) (mvT K.1.2.1 w4) (oSelf w3 hcc w4 w2 hy K.1.2.1) (Cond.privateMethod_at (mvP K.1.2.1 w2 (args:=args))) (mvT K.1.2.1 w5) hy (backOf (W:=W) (Q:=fun v hp L=>Fr h0.size L∧∃ ds',(oVal P2) v ds'∧oMem Z h0 hp ds') (Ct T.heap M) K.1.2.1 w5 w6 hf hl) (g:=mkF m pc Ls (argsL.reverse ++ .ref a::S)) rfl (hsz.trans K.1.2.2.2.symm) (Steps.refl _) q1 (fun q z=>by rw [z] at q4; cases q4) (argsL:=argsL) (rest:=S) hlen rfl (by show 2 * 0 + _≤_; omega) (hb K.1.2.2.1 hd) (fun _ _=>⟨rfl,rfl,hc,hs⟩)
  dsimp only [Pt.U,Pt.locs,Pt.cells,Pt.slots] at X' l' y' z' st hQ
  subst l' y' z'
  obtain ⟨N',ds',hP,M'⟩:=hQ
  obtain ⟨w,rfl,hP⟩:=hP
  exact oW.ends (fun t k=>st.trans k) (hr w ds' hP T' ⟨_,X',N.app N',M'⟩)

end Steps
section Short
variable {p : Program} {l : Launch} {e : Env} {R : Room} {s : State} {m : MethodId} {args : Array Value} {below : List Frame} {meth : Method} {c : Code} {Z : State} {h0 : Heap} {own nm : String} {by0 : ByteArray} {ml : Nat} {ret : Option FieldType} {P : Option Value → oDs → Prop} {ds ds' : oDs} {cells slots pc pc' : Nat} {Ls Ls' : Array Slot} {S S' : List Value} {a0 : Array Value}
abbrev oC : String := "com/example/term_proximity_ranking/termproximityranking/bm25/SpanCovers"
abbrev oF (y0 y1 y2 y3 y4 y5 y6 y7 y8 y9 y10 y11 y12 y13 y14 y15 y16 y17 y18 y19 : Value) : List (String × String × String × Value) := [(oC, "occurrences", "[J", y0), (oC, "farthest", "[I", y1), (oC, "read", "[J", y2), (oC, "coverLengths", "[I", y3), (oC, "merged", "[Z", y4), (oC, "mergedWords", "[I", y5), (oC, "ranks", "[I", y6), (oC, "words", "[I", y7), (oC, "positions", "[[I", y8), (oC, "kept", "[I", y9), (oC, "wordCount", "I", y10), (oC, "anchors", "[I", y11), (oC, "mergedCount", "I", y12), (oC, "occurrenceCount", "I", y13), (oC, "documentLength", "I", y14), (oC, "widened", "I", y15), (oC, "coverCount", "I", y16), (oC, "readCount", "I", y17), (oC, "held", "I", y18), (oC, "earliest", "I", y19)]
abbrev oO (y0 y1 y2 y3 y4 y5 y6 y7 y8 y9 y10 y11 y12 y13 y14 y15 y16 y17 y18 y19 : Value) : oDsc := .inr (oC, oF y0 y1 y2 y3 y4 y5 y6 y7 y8 y9 y10 y11 y12 y13 y14 y15 y16 y17 y18 y19)
abbrev oP (y0 y1 y2 y3 y4 y5 y6 y7 y8 y9 : Addr) (y10 y11 y12 y13 y14 y15 y16 y17 y18 y19 : Value) : oDsc := oO (.ref y0) (.ref y1) (.ref y2) (.ref y3) (.ref y4) (.ref y5) (.ref y6) (.ref y7) (.ref y8) (.ref y9) y10 y11 y12 y13 y14 y15 y16 y17 y18 y19
abbrev oHw (a0 : Array Value) (Z : State) : Prop := ∀ (i : Nat) {d : Jvm.Cond} (h : tables_1[i]? = some d := by exact rfl), d.before a0 Z = true
abbrev oR (f c s l : Nat) : Room := { frames := f, cells := c, slots := s, locals := l }
theorem oE {α : Type} (x : α) : ∃ t, t = x := ⟨x, rfl⟩
abbrev nM0 : MethodName := (⟨"java/lang/Math", "max", "(II)I"⟩ : MethodName)
abbrev nM1 : MethodName := (⟨"java/lang/Math", "min", "(II)I"⟩ : MethodName)
abbrev nM2 : MethodName := (⟨"java/lang/Math", "min", "(JJ)J"⟩ : MethodName)
abbrev nM3 : MethodName := (⟨"com/example/term_proximity_ranking/termproximityranking/bm25/Occurrences", "of", "(II)J"⟩ : MethodName)
abbrev nM4 : MethodName := (⟨"com/example/term_proximity_ranking/termproximityranking/bm25/Occurrences", "position", "(J)I"⟩ : MethodName)
abbrev nM5 : MethodName := (⟨"com/example/term_proximity_ranking/termproximityranking/bm25/Occurrences", "word", "(J)I"⟩ : MethodName)
abbrev nM6 : MethodName := (⟨"java/util/Arrays", "rangeCheck", "(III)V"⟩ : MethodName)
abbrev nM7 : MethodName := (⟨"java/util/Arrays", "binarySearch0", "([JIIJ)I"⟩ : MethodName)
abbrev nM8 : MethodName := (⟨"java/util/Arrays", "binarySearch", "([JIIJ)I"⟩ : MethodName)
abbrev nM9 : MethodName := (⟨"com/example/term_proximity_ranking/termproximityranking/bm25/Occurrences", "firstAt", "([JII)I"⟩ : MethodName)
abbrev nM10 : MethodName := (⟨"com/example/term_proximity_ranking/termproximityranking/bm25/SpanCovers", "restart", "()V"⟩ : MethodName)
abbrev nM11 : MethodName := (⟨"com/example/term_proximity_ranking/termproximityranking/bm25/SpanCovers", "read", "(IID)Z"⟩ : MethodName)
abbrev nM12 : MethodName := (⟨"com/example/term_proximity_ranking/termproximityranking/bm25/SpanCovers", "start", "(I)V"⟩ : MethodName)
abbrev nM13 : MethodName := (⟨"com/example/term_proximity_ranking/termproximityranking/bm25/SpanCovers", "readRange", "(IID)I"⟩ : MethodName)
abbrev nM14 : MethodName := (⟨"java/util/Arrays", "binarySearch0", "([IIII)I"⟩ : MethodName)
abbrev nM15 : MethodName := (⟨"java/util/Arrays", "binarySearch", "([II)I"⟩ : MethodName)
abbrev nM16 : MethodName := (⟨"com/example/term_proximity_ranking/termproximityranking/bm25/SpanCovers", "distance", "([II)I"⟩ : MethodName)
abbrev nM17 : MethodName := (⟨"java/lang/Math", "getExponent", "(D)I"⟩ : MethodName)
abbrev nM18 : MethodName := (⟨"java/lang/StrictMath", "floorOrCeil", "(DDDD)D"⟩ : MethodName)
abbrev nM19 : MethodName := (⟨"java/lang/StrictMath", "floor", "(D)D"⟩ : MethodName)
abbrev nM20 : MethodName := (⟨"java/lang/Math", "floor", "(D)D"⟩ : MethodName)
abbrev nM21 : MethodName := (⟨"java/lang/Math", "min", "(DD)D"⟩ : MethodName)
abbrev nM22 : MethodName := (⟨"com/example/term_proximity_ranking/termproximityranking/bm25/SpanCovers", "clear", "()V"⟩ : MethodName)
abbrev nM23 : MethodName := (⟨"com/example/term_proximity_ranking/termproximityranking/bm25/SpanCovers", "length", "(I)I"⟩ : MethodName)
abbrev nM24 : MethodName := (⟨"java/util/Arrays", "fill", "([II)V"⟩ : MethodName)
abbrev nM25 : MethodName := (⟨"com/example/term_proximity_ranking/termproximityranking/bm25/SpanCovers", "<init>", "(I)V"⟩ : MethodName)
abbrev nM26 : MethodName := (⟨"com/example/term_proximity_ranking/termproximityranking/bm25/SpanCoversClearPinLaw", "positionsOf", "(II)[I"⟩ : MethodName)
abbrev nM27 : MethodName := (⟨"java/util/Arrays", "copyOf", "([JI)[J"⟩ : MethodName)
abbrev nM28 : MethodName := (⟨"com/example/term_proximity_ranking/termproximityranking/bm25/Occurrences", "addWord", "([JI[II)I"⟩ : MethodName)
abbrev nM29 : MethodName := (⟨"com/example/term_proximity_ranking/termproximityranking/bm25/SpanCovers", "add", "(I[I)V"⟩ : MethodName)
abbrev nM30 : MethodName := (⟨"java/util/Arrays", "fill", "([IIII)V"⟩ : MethodName)
abbrev nM31 : MethodName := (⟨"com/example/term_proximity_ranking/termproximityranking/bm25/SpanCovers", "widen", "()V"⟩ : MethodName)
abbrev nM32 : MethodName := (⟨"com/example/term_proximity_ranking/termproximityranking/bm25/SpanCovers", "find", "(D)I"⟩ : MethodName)
theorem S0 {x0 : Addr × oDsc} {a : Addr} {t : FieldType} {vs vs' : List Value} {r : oDs} (h : vs=vs') : (x0::r).set 0 (a,.inl (t,vs))=(a,.inl (t,vs'))::r:=by rw [h]; rfl
theorem S1 {x0 x1 : Addr × oDsc} {a : Addr} {t : FieldType} {vs vs' : List Value} {r : oDs} (h : vs=vs') : (x0::x1::r).set 1 (a,.inl (t,vs))=x0::(a,.inl (t,vs'))::r:=by rw [h]; rfl
theorem S2 {x0 x1 x2 : Addr × oDsc} {a : Addr} {t : FieldType} {vs vs' : List Value} {r : oDs} (h : vs=vs') : (x0::x1::x2::r).set 2 (a,.inl (t,vs))=x0::x1::(a,.inl (t,vs'))::r:=by rw [h]; rfl
theorem S4 {x0 x1 x2 x3 x4 : Addr × oDsc} {a : Addr} {t : FieldType} {vs vs' : List Value} {r : oDs} (h : vs=vs') : (x0::x1::x2::x3::x4::r).set 4 (a,.inl (t,vs))=x0::x1::x2::x3::(a,.inl (t,vs'))::r:=by rw [h]; rfl
theorem S5 {x0 x1 x2 x3 x4 x5 : Addr × oDsc} {a : Addr} {t : FieldType} {vs vs' : List Value} {r : oDs} (h : vs=vs') : (x0::x1::x2::x3::x4::x5::r).set 5 (a,.inl (t,vs))=x0::x1::x2::x3::x4::(a,.inl (t,vs'))::r:=by rw [h]; rfl
theorem S6 {x0 x1 x2 x3 x4 x5 x6 : Addr × oDsc} {a : Addr} {t : FieldType} {vs vs' : List Value} {r : oDs} (h : vs=vs') : (x0::x1::x2::x3::x4::x5::x6::r).set 6 (a,.inl (t,vs))=x0::x1::x2::x3::x4::x5::(a,.inl (t,vs'))::r:=by rw [h]; rfl
theorem S7 {x0 x1 x2 x3 x4 x5 x6 x7 : Addr × oDsc} {a : Addr} {t : FieldType} {vs vs' : List Value} {r : oDs} (h : vs=vs') : (x0::x1::x2::x3::x4::x5::x6::x7::r).set 7 (a,.inl (t,vs))=x0::x1::x2::x3::x4::x5::x6::(a,.inl (t,vs'))::r:=by rw [h]; rfl
theorem S8 {x0 x1 x2 x3 x4 x5 x6 x7 x8 : Addr × oDsc} {a : Addr} {t : FieldType} {vs vs' : List Value} {r : oDs} (h : vs=vs') : (x0::x1::x2::x3::x4::x5::x6::x7::x8::r).set 8 (a,.inl (t,vs))=x0::x1::x2::x3::x4::x5::x6::x7::(a,.inl (t,vs'))::r:=by rw [h]; rfl
theorem S9 {x0 x1 x2 x3 x4 x5 x6 x7 x8 x9 : Addr × oDsc} {a : Addr} {t : FieldType} {vs vs' : List Value} {r : oDs} (h : vs=vs') : (x0::x1::x2::x3::x4::x5::x6::x7::x8::x9::r).set 9 (a,.inl (t,vs))=x0::x1::x2::x3::x4::x5::x6::x7::x8::(a,.inl (t,vs'))::r:=by rw [h]; rfl
theorem S10 {x0 x1 x2 x3 x4 x5 x6 x7 x8 x9 x10 : Addr × oDsc} {a : Addr} {t : FieldType} {vs vs' : List Value} {r : oDs} (h : vs=vs') : (x0::x1::x2::x3::x4::x5::x6::x7::x8::x9::x10::r).set 10 (a,.inl (t,vs))=x0::x1::x2::x3::x4::x5::x6::x7::x8::x9::(a,.inl (t,vs'))::r:=by rw [h]; rfl
theorem S13 {x0 x1 x2 x3 x4 x5 x6 x7 x8 x9 x10 x11 x12 x13 : Addr × oDsc} {a : Addr} {t : FieldType} {vs vs' : List Value} {r : oDs} (h : vs=vs') : (x0::x1::x2::x3::x4::x5::x6::x7::x8::x9::x10::x11::x12::x13::r).set 13 (a,.inl (t,vs))=x0::x1::x2::x3::x4::x5::x6::x7::x8::x9::x10::x11::x12::(a,.inl (t,vs'))::r:=by rw [h]; rfl
theorem P3 {x0 x1 x2 x3 : Addr × oDsc} {a : Addr} {D D' : oDsc} {r : oDs} (h : D=D') : (x0::x1::x2::x3::r).set 3 (a,D)=x0::x1::x2::(a,D')::r:=by rw [h]; rfl
theorem T0 {x0 v : Value} {r : List Value} : (x0::r).set 0 v=v::r:=rfl
theorem T1 {x0 x1 v : Value} {r : List Value} : (x0::x1::r).set 1 v=x0::v::r:=rfl
theorem T2 {x0 x1 x2 v : Value} {r : List Value} : (x0::x1::x2::r).set 2 v=x0::x1::v::r:=rfl
theorem T3 {x0 x1 x2 x3 v : Value} {r : List Value} : (x0::x1::x2::x3::r).set 3 v=x0::x1::x2::v::r:=rfl
theorem T4 {x0 x1 x2 x3 x4 v : Value} {r : List Value} : (x0::x1::x2::x3::x4::r).set 4 v=x0::x1::x2::x3::v::r:=rfl
theorem T5 {x0 x1 x2 x3 x4 x5 v : Value} {r : List Value} : (x0::x1::x2::x3::x4::x5::r).set 5 v=x0::x1::x2::x3::x4::v::r:=rfl
theorem F0 {y0 y1 y2 y3 y4 y5 y6 y7 y8 y9 y10 y11 y12 y13 y14 y15 y16 y17 y18 y19 v : Value} : (.inr (oC, (oF y0 y1 y2 y3 y4 y5 y6 y7 y8 y9 y10 y11 y12 y13 y14 y15 y16 y17 y18 y19).set 0 (oC, "occurrences", "[J", v)) : oDsc) = oO v y1 y2 y3 y4 y5 y6 y7 y8 y9 y10 y11 y12 y13 y14 y15 y16 y17 y18 y19 := rfl
theorem F1 {y0 y1 y2 y3 y4 y5 y6 y7 y8 y9 y10 y11 y12 y13 y14 y15 y16 y17 y18 y19 v : Value} : (.inr (oC, (oF y0 y1 y2 y3 y4 y5 y6 y7 y8 y9 y10 y11 y12 y13 y14 y15 y16 y17 y18 y19).set 1 (oC, "farthest", "[I", v)) : oDsc) = oO y0 v y2 y3 y4 y5 y6 y7 y8 y9 y10 y11 y12 y13 y14 y15 y16 y17 y18 y19 := rfl
theorem F2 {y0 y1 y2 y3 y4 y5 y6 y7 y8 y9 y10 y11 y12 y13 y14 y15 y16 y17 y18 y19 v : Value} : (.inr (oC, (oF y0 y1 y2 y3 y4 y5 y6 y7 y8 y9 y10 y11 y12 y13 y14 y15 y16 y17 y18 y19).set 2 (oC, "read", "[J", v)) : oDsc) = oO y0 y1 v y3 y4 y5 y6 y7 y8 y9 y10 y11 y12 y13 y14 y15 y16 y17 y18 y19 := rfl
theorem F3 {y0 y1 y2 y3 y4 y5 y6 y7 y8 y9 y10 y11 y12 y13 y14 y15 y16 y17 y18 y19 v : Value} : (.inr (oC, (oF y0 y1 y2 y3 y4 y5 y6 y7 y8 y9 y10 y11 y12 y13 y14 y15 y16 y17 y18 y19).set 3 (oC, "coverLengths", "[I", v)) : oDsc) = oO y0 y1 y2 v y4 y5 y6 y7 y8 y9 y10 y11 y12 y13 y14 y15 y16 y17 y18 y19 := rfl
theorem F4 {y0 y1 y2 y3 y4 y5 y6 y7 y8 y9 y10 y11 y12 y13 y14 y15 y16 y17 y18 y19 v : Value} : (.inr (oC, (oF y0 y1 y2 y3 y4 y5 y6 y7 y8 y9 y10 y11 y12 y13 y14 y15 y16 y17 y18 y19).set 4 (oC, "merged", "[Z", v)) : oDsc) = oO y0 y1 y2 y3 v y5 y6 y7 y8 y9 y10 y11 y12 y13 y14 y15 y16 y17 y18 y19 := rfl
theorem F5 {y0 y1 y2 y3 y4 y5 y6 y7 y8 y9 y10 y11 y12 y13 y14 y15 y16 y17 y18 y19 v : Value} : (.inr (oC, (oF y0 y1 y2 y3 y4 y5 y6 y7 y8 y9 y10 y11 y12 y13 y14 y15 y16 y17 y18 y19).set 5 (oC, "mergedWords", "[I", v)) : oDsc) = oO y0 y1 y2 y3 y4 v y6 y7 y8 y9 y10 y11 y12 y13 y14 y15 y16 y17 y18 y19 := rfl
theorem F6 {y0 y1 y2 y3 y4 y5 y6 y7 y8 y9 y10 y11 y12 y13 y14 y15 y16 y17 y18 y19 v : Value} : (.inr (oC, (oF y0 y1 y2 y3 y4 y5 y6 y7 y8 y9 y10 y11 y12 y13 y14 y15 y16 y17 y18 y19).set 6 (oC, "ranks", "[I", v)) : oDsc) = oO y0 y1 y2 y3 y4 y5 v y7 y8 y9 y10 y11 y12 y13 y14 y15 y16 y17 y18 y19 := rfl
theorem F7 {y0 y1 y2 y3 y4 y5 y6 y7 y8 y9 y10 y11 y12 y13 y14 y15 y16 y17 y18 y19 v : Value} : (.inr (oC, (oF y0 y1 y2 y3 y4 y5 y6 y7 y8 y9 y10 y11 y12 y13 y14 y15 y16 y17 y18 y19).set 7 (oC, "words", "[I", v)) : oDsc) = oO y0 y1 y2 y3 y4 y5 y6 v y8 y9 y10 y11 y12 y13 y14 y15 y16 y17 y18 y19 := rfl
theorem F8 {y0 y1 y2 y3 y4 y5 y6 y7 y8 y9 y10 y11 y12 y13 y14 y15 y16 y17 y18 y19 v : Value} : (.inr (oC, (oF y0 y1 y2 y3 y4 y5 y6 y7 y8 y9 y10 y11 y12 y13 y14 y15 y16 y17 y18 y19).set 8 (oC, "positions", "[[I", v)) : oDsc) = oO y0 y1 y2 y3 y4 y5 y6 y7 v y9 y10 y11 y12 y13 y14 y15 y16 y17 y18 y19 := rfl
theorem F9 {y0 y1 y2 y3 y4 y5 y6 y7 y8 y9 y10 y11 y12 y13 y14 y15 y16 y17 y18 y19 v : Value} : (.inr (oC, (oF y0 y1 y2 y3 y4 y5 y6 y7 y8 y9 y10 y11 y12 y13 y14 y15 y16 y17 y18 y19).set 9 (oC, "kept", "[I", v)) : oDsc) = oO y0 y1 y2 y3 y4 y5 y6 y7 y8 v y10 y11 y12 y13 y14 y15 y16 y17 y18 y19 := rfl
theorem F10 {y0 y1 y2 y3 y4 y5 y6 y7 y8 y9 y10 y11 y12 y13 y14 y15 y16 y17 y18 y19 v : Value} : (.inr (oC, (oF y0 y1 y2 y3 y4 y5 y6 y7 y8 y9 y10 y11 y12 y13 y14 y15 y16 y17 y18 y19).set 10 (oC, "wordCount", "I", v)) : oDsc) = oO y0 y1 y2 y3 y4 y5 y6 y7 y8 y9 v y11 y12 y13 y14 y15 y16 y17 y18 y19 := rfl
theorem F11 {y0 y1 y2 y3 y4 y5 y6 y7 y8 y9 y10 y11 y12 y13 y14 y15 y16 y17 y18 y19 v : Value} : (.inr (oC, (oF y0 y1 y2 y3 y4 y5 y6 y7 y8 y9 y10 y11 y12 y13 y14 y15 y16 y17 y18 y19).set 11 (oC, "anchors", "[I", v)) : oDsc) = oO y0 y1 y2 y3 y4 y5 y6 y7 y8 y9 y10 v y12 y13 y14 y15 y16 y17 y18 y19 := rfl
theorem F12 {y0 y1 y2 y3 y4 y5 y6 y7 y8 y9 y10 y11 y12 y13 y14 y15 y16 y17 y18 y19 v : Value} : (.inr (oC, (oF y0 y1 y2 y3 y4 y5 y6 y7 y8 y9 y10 y11 y12 y13 y14 y15 y16 y17 y18 y19).set 12 (oC, "mergedCount", "I", v)) : oDsc) = oO y0 y1 y2 y3 y4 y5 y6 y7 y8 y9 y10 y11 v y13 y14 y15 y16 y17 y18 y19 := rfl
theorem F13 {y0 y1 y2 y3 y4 y5 y6 y7 y8 y9 y10 y11 y12 y13 y14 y15 y16 y17 y18 y19 v : Value} : (.inr (oC, (oF y0 y1 y2 y3 y4 y5 y6 y7 y8 y9 y10 y11 y12 y13 y14 y15 y16 y17 y18 y19).set 13 (oC, "occurrenceCount", "I", v)) : oDsc) = oO y0 y1 y2 y3 y4 y5 y6 y7 y8 y9 y10 y11 y12 v y14 y15 y16 y17 y18 y19 := rfl
theorem F14 {y0 y1 y2 y3 y4 y5 y6 y7 y8 y9 y10 y11 y12 y13 y14 y15 y16 y17 y18 y19 v : Value} : (.inr (oC, (oF y0 y1 y2 y3 y4 y5 y6 y7 y8 y9 y10 y11 y12 y13 y14 y15 y16 y17 y18 y19).set 14 (oC, "documentLength", "I", v)) : oDsc) = oO y0 y1 y2 y3 y4 y5 y6 y7 y8 y9 y10 y11 y12 y13 v y15 y16 y17 y18 y19 := rfl
theorem F15 {y0 y1 y2 y3 y4 y5 y6 y7 y8 y9 y10 y11 y12 y13 y14 y15 y16 y17 y18 y19 v : Value} : (.inr (oC, (oF y0 y1 y2 y3 y4 y5 y6 y7 y8 y9 y10 y11 y12 y13 y14 y15 y16 y17 y18 y19).set 15 (oC, "widened", "I", v)) : oDsc) = oO y0 y1 y2 y3 y4 y5 y6 y7 y8 y9 y10 y11 y12 y13 y14 v y16 y17 y18 y19 := rfl
theorem F16 {y0 y1 y2 y3 y4 y5 y6 y7 y8 y9 y10 y11 y12 y13 y14 y15 y16 y17 y18 y19 v : Value} : (.inr (oC, (oF y0 y1 y2 y3 y4 y5 y6 y7 y8 y9 y10 y11 y12 y13 y14 y15 y16 y17 y18 y19).set 16 (oC, "coverCount", "I", v)) : oDsc) = oO y0 y1 y2 y3 y4 y5 y6 y7 y8 y9 y10 y11 y12 y13 y14 y15 v y17 y18 y19 := rfl
theorem F17 {y0 y1 y2 y3 y4 y5 y6 y7 y8 y9 y10 y11 y12 y13 y14 y15 y16 y17 y18 y19 v : Value} : (.inr (oC, (oF y0 y1 y2 y3 y4 y5 y6 y7 y8 y9 y10 y11 y12 y13 y14 y15 y16 y17 y18 y19).set 17 (oC, "readCount", "I", v)) : oDsc) = oO y0 y1 y2 y3 y4 y5 y6 y7 y8 y9 y10 y11 y12 y13 y14 y15 y16 v y18 y19 := rfl
theorem F18 {y0 y1 y2 y3 y4 y5 y6 y7 y8 y9 y10 y11 y12 y13 y14 y15 y16 y17 y18 y19 v : Value} : (.inr (oC, (oF y0 y1 y2 y3 y4 y5 y6 y7 y8 y9 y10 y11 y12 y13 y14 y15 y16 y17 y18 y19).set 18 (oC, "held", "I", v)) : oDsc) = oO y0 y1 y2 y3 y4 y5 y6 y7 y8 y9 y10 y11 y12 y13 y14 y15 y16 y17 v y19 := rfl
theorem F19 {y0 y1 y2 y3 y4 y5 y6 y7 y8 y9 y10 y11 y12 y13 y14 y15 y16 y17 y18 y19 v : Value} : (.inr (oC, (oF y0 y1 y2 y3 y4 y5 y6 y7 y8 y9 y10 y11 y12 y13 y14 y15 y16 y17 y18 y19).set 19 (oC, "earliest", "I", v)) : oDsc) = oO y0 y1 y2 y3 y4 y5 y6 y7 y8 y9 y10 y11 y12 y13 y14 y15 y16 y17 y18 v := rfl
def oPl : Slot → Bool
  | .unset => true
  | .val v => decide (¬ v.category = 2)
  | .second => false
theorem oStG {L : List Slot} {n : Nat} {x : Slot} {v : Value} (hx : L[n]? = some x) (h : oPl x = true) (hv : v.category = 1) : storeLocals L.toArray n v = some (L.set n (.val v)).toArray := by
  have hn : n < L.length := (List.getElem?_eq_some_iff.mp hx).1
  have hg : L.toArray[n]? = some x := by simpa using hx
  have e1 : setAt L.toArray n (.val v) = some (L.set n (.val v)).toArray := by
    show (if n < L.toArray.size then some (L.toArray.setIfInBounds n (.val v)) else none) = _
    rw [if_pos (by simpa using hn)]; simp
  have hs : storeSelf L.toArray n v = some (L.set n (.val v)).toArray := by
    unfold storeSelf
    rw [e1]
    exact if_neg (by omega)
  unfold storeLocals
  rw [hg]
  cases x with
  | unset => exact hs
  | second => cases h
  | val old => exact (if_neg (of_decide_eq_true h)).trans hs
theorem U1 {x0 x1 : Slot} {v : Value} {r : List Slot} (h : oPl x1=true:=by exact rfl) (hv : v.category=1:=by exact rfl) : storeLocals (List.toArray (x0::x1::r)) 1 v=some (List.toArray (x0::.val v::r)):=oStG (x:=x1) rfl h hv
theorem U2 {x0 x1 x2 : Slot} {v : Value} {r : List Slot} (h : oPl x2=true:=by exact rfl) (hv : v.category=1:=by exact rfl) : storeLocals (List.toArray (x0::x1::x2::r)) 2 v=some (List.toArray (x0::x1::.val v::r)):=oStG (x:=x2) rfl h hv
theorem U3 {x0 x1 x2 x3 : Slot} {v : Value} {r : List Slot} (h : oPl x3=true:=by exact rfl) (hv : v.category=1:=by exact rfl) : storeLocals (List.toArray (x0::x1::x2::x3::r)) 3 v=some (List.toArray (x0::x1::x2::.val v::r)):=oStG (x:=x3) rfl h hv
theorem U4 {x0 x1 x2 x3 x4 : Slot} {v : Value} {r : List Slot} (h : oPl x4=true:=by exact rfl) (hv : v.category=1:=by exact rfl) : storeLocals (List.toArray (x0::x1::x2::x3::x4::r)) 4 v=some (List.toArray (x0::x1::x2::x3::.val v::r)):=oStG (x:=x4) rfl h hv
theorem U5 {x0 x1 x2 x3 x4 x5 : Slot} {v : Value} {r : List Slot} (h : oPl x5=true:=by exact rfl) (hv : v.category=1:=by exact rfl) : storeLocals (List.toArray (x0::x1::x2::x3::x4::x5::r)) 5 v=some (List.toArray (x0::x1::x2::x3::x4::.val v::r)):=oStG (x:=x5) rfl h hv
theorem U6 {x0 x1 x2 x3 x4 x5 x6 : Slot} {v : Value} {r : List Slot} (h : oPl x6=true:=by exact rfl) (hv : v.category=1:=by exact rfl) : storeLocals (List.toArray (x0::x1::x2::x3::x4::x5::x6::r)) 6 v=some (List.toArray (x0::x1::x2::x3::x4::x5::.val v::r)):=oStG (x:=x6) rfl h hv
theorem U7 {x0 x1 x2 x3 x4 x5 x6 x7 : Slot} {v : Value} {r : List Slot} (h : oPl x7=true:=by exact rfl) (hv : v.category=1:=by exact rfl) : storeLocals (List.toArray (x0::x1::x2::x3::x4::x5::x6::x7::r)) 7 v=some (List.toArray (x0::x1::x2::x3::x4::x5::x6::.val v::r)):=oStG (x:=x7) rfl h hv
theorem U8 {x0 x1 x2 x3 x4 x5 x6 x7 x8 : Slot} {v : Value} {r : List Slot} (h : oPl x8=true:=by exact rfl) (hv : v.category=1:=by exact rfl) : storeLocals (List.toArray (x0::x1::x2::x3::x4::x5::x6::x7::x8::r)) 8 v=some (List.toArray (x0::x1::x2::x3::x4::x5::x6::x7::.val v::r)):=oStG (x:=x8) rfl h hv
theorem U9 {x0 x1 x2 x3 x4 x5 x6 x7 x8 x9 : Slot} {v : Value} {r : List Slot} (h : oPl x9=true:=by exact rfl) (hv : v.category=1:=by exact rfl) : storeLocals (List.toArray (x0::x1::x2::x3::x4::x5::x6::x7::x8::x9::r)) 9 v=some (List.toArray (x0::x1::x2::x3::x4::x5::x6::x7::x8::.val v::r)):=oStG (x:=x9) rfl h hv
theorem U14 {x0 x1 x2 x3 x4 x5 x6 x7 x8 x9 x10 x11 x12 x13 x14 : Slot} {v : Value} {r : List Slot} (h : oPl x14=true:=by exact rfl) (hv : v.category=1:=by exact rfl) : storeLocals (List.toArray (x0::x1::x2::x3::x4::x5::x6::x7::x8::x9::x10::x11::x12::x13::x14::r)) 14 v=some (List.toArray (x0::x1::x2::x3::x4::x5::x6::x7::x8::x9::x10::x11::x12::x13::.val v::r)):=oStG (x:=x14) rfl h hv
theorem U15 {x0 x1 x2 x3 x4 x5 x6 x7 x8 x9 x10 x11 x12 x13 x14 x15 : Slot} {v : Value} {r : List Slot} (h : oPl x15=true:=by exact rfl) (hv : v.category=1:=by exact rfl) : storeLocals (List.toArray (x0::x1::x2::x3::x4::x5::x6::x7::x8::x9::x10::x11::x12::x13::x14::x15::r)) 15 v=some (List.toArray (x0::x1::x2::x3::x4::x5::x6::x7::x8::x9::x10::x11::x12::x13::x14::.val v::r)):=oStG (x:=x15) rfl h hv
theorem U16 {x0 x1 x2 x3 x4 x5 x6 x7 x8 x9 x10 x11 x12 x13 x14 x15 x16 : Slot} {v : Value} {r : List Slot} (h : oPl x16=true:=by exact rfl) (hv : v.category=1:=by exact rfl) : storeLocals (List.toArray (x0::x1::x2::x3::x4::x5::x6::x7::x8::x9::x10::x11::x12::x13::x14::x15::x16::r)) 16 v=some (List.toArray (x0::x1::x2::x3::x4::x5::x6::x7::x8::x9::x10::x11::x12::x13::x14::x15::.val v::r)):=oStG (x:=x16) rfl h hv
theorem U17 {x0 x1 x2 x3 x4 x5 x6 x7 x8 x9 x10 x11 x12 x13 x14 x15 x16 x17 : Slot} {v : Value} {r : List Slot} (h : oPl x17=true:=by exact rfl) (hv : v.category=1:=by exact rfl) : storeLocals (List.toArray (x0::x1::x2::x3::x4::x5::x6::x7::x8::x9::x10::x11::x12::x13::x14::x15::x16::x17::r)) 17 v=some (List.toArray (x0::x1::x2::x3::x4::x5::x6::x7::x8::x9::x10::x11::x12::x13::x14::x15::x16::.val v::r)):=oStG (x:=x17) rfl h hv
theorem N0 (D : oDsc) {D0 : oDsc} (h : D0=D:=by exact rfl) : ∀ a : Addr,[] ++ [(a,D0)]=[(a,D)]:=by subst h; intro a; rfl
theorem N1 {x0 : Addr × oDsc} (D : oDsc) {D0 : oDsc} (h : D0=D:=by exact rfl) : ∀ a : Addr,[x0] ++ [(a,D0)]=[x0,(a,D)]:=by subst h; intro a; rfl
theorem N2 {x0 x1 : Addr × oDsc} (D : oDsc) {D0 : oDsc} (h : D0=D:=by exact rfl) : ∀ a : Addr,[x0,x1] ++ [(a,D0)]=[x0,x1,(a,D)]:=by subst h; intro a; rfl
theorem N4 {x0 x1 x2 x3 : Addr × oDsc} (D : oDsc) {D0 : oDsc} (h : D0=D:=by exact rfl) : ∀ a : Addr,[x0,x1,x2,x3] ++ [(a,D0)]=[x0,x1,x2,x3,(a,D)]:=by subst h; intro a; rfl
theorem N5 {x0 x1 x2 x3 x4 : Addr × oDsc} (D : oDsc) {D0 : oDsc} (h : D0=D:=by exact rfl) : ∀ a : Addr,[x0,x1,x2,x3,x4] ++ [(a,D0)]=[x0,x1,x2,x3,x4,(a,D)]:=by subst h; intro a; rfl
theorem N6 {x0 x1 x2 x3 x4 x5 : Addr × oDsc} (D : oDsc) {D0 : oDsc} (h : D0=D:=by exact rfl) : ∀ a : Addr,[x0,x1,x2,x3,x4,x5] ++ [(a,D0)]=[x0,x1,x2,x3,x4,x5,(a,D)]:=by subst h; intro a; rfl
theorem N7 {x0 x1 x2 x3 x4 x5 x6 : Addr × oDsc} (D : oDsc) {D0 : oDsc} (h : D0=D:=by exact rfl) : ∀ a : Addr,[x0,x1,x2,x3,x4,x5,x6] ++ [(a,D0)]=[x0,x1,x2,x3,x4,x5,x6,(a,D)]:=by subst h; intro a; rfl
theorem N8 {x0 x1 x2 x3 x4 x5 x6 x7 : Addr × oDsc} (D : oDsc) {D0 : oDsc} (h : D0=D:=by exact rfl) : ∀ a : Addr,[x0,x1,x2,x3,x4,x5,x6,x7] ++ [(a,D0)]=[x0,x1,x2,x3,x4,x5,x6,x7,(a,D)]:=by subst h; intro a; rfl
theorem N9 {x0 x1 x2 x3 x4 x5 x6 x7 x8 : Addr × oDsc} (D : oDsc) {D0 : oDsc} (h : D0=D:=by exact rfl) : ∀ a : Addr,[x0,x1,x2,x3,x4,x5,x6,x7,x8] ++ [(a,D0)]=[x0,x1,x2,x3,x4,x5,x6,x7,x8,(a,D)]:=by subst h; intro a; rfl
theorem N10 {x0 x1 x2 x3 x4 x5 x6 x7 x8 x9 : Addr × oDsc} (D : oDsc) {D0 : oDsc} (h : D0=D:=by exact rfl) : ∀ a : Addr,[x0,x1,x2,x3,x4,x5,x6,x7,x8,x9] ++ [(a,D0)]=[x0,x1,x2,x3,x4,x5,x6,x7,x8,x9,(a,D)]:=by subst h; intro a; rfl
theorem N11 {x0 x1 x2 x3 x4 x5 x6 x7 x8 x9 x10 : Addr × oDsc} (D : oDsc) {D0 : oDsc} (h : D0=D:=by exact rfl) : ∀ a : Addr,[x0,x1,x2,x3,x4,x5,x6,x7,x8,x9,x10] ++ [(a,D0)]=[x0,x1,x2,x3,x4,x5,x6,x7,x8,x9,x10,(a,D)]:=by subst h; intro a; rfl
theorem N13 {x0 x1 x2 x3 x4 x5 x6 x7 x8 x9 x10 x11 x12 : Addr × oDsc} (D : oDsc) {D0 : oDsc} (h : D0=D:=by exact rfl) : ∀ a : Addr,[x0,x1,x2,x3,x4,x5,x6,x7,x8,x9,x10,x11,x12] ++ [(a,D0)]=[x0,x1,x2,x3,x4,x5,x6,x7,x8,x9,x10,x11,x12,(a,D)]:=by subst h; intro a; rfl
theorem N14 {x0 x1 x2 x3 x4 x5 x6 x7 x8 x9 x10 x11 x12 x13 : Addr × oDsc} (D : oDsc) {D0 : oDsc} (h : D0=D:=by exact rfl) : ∀ a : Addr,[x0,x1,x2,x3,x4,x5,x6,x7,x8,x9,x10,x11,x12,x13] ++ [(a,D0)]=[x0,x1,x2,x3,x4,x5,x6,x7,x8,x9,x10,x11,x12,x13,(a,D)]:=by subst h; intro a; rfl
theorem N15 {x0 x1 x2 x3 x4 x5 x6 x7 x8 x9 x10 x11 x12 x13 x14 : Addr × oDsc} (D : oDsc) {D0 : oDsc} (h : D0=D:=by exact rfl) : ∀ a : Addr,[x0,x1,x2,x3,x4,x5,x6,x7,x8,x9,x10,x11,x12,x13,x14] ++ [(a,D0)]=[x0,x1,x2,x3,x4,x5,x6,x7,x8,x9,x10,x11,x12,x13,x14,(a,D)]:=by subst h; intro a; rfl
theorem N16 {x0 x1 x2 x3 x4 x5 x6 x7 x8 x9 x10 x11 x12 x13 x14 x15 : Addr × oDsc} (D : oDsc) {D0 : oDsc} (h : D0=D:=by exact rfl) : ∀ a : Addr,[x0,x1,x2,x3,x4,x5,x6,x7,x8,x9,x10,x11,x12,x13,x14,x15] ++ [(a,D0)]=[x0,x1,x2,x3,x4,x5,x6,x7,x8,x9,x10,x11,x12,x13,x14,x15,(a,D)]:=by subst h; intro a; rfl
theorem oL0 {x0 : Value} {r : List Value} : 0 < (x0 :: r).length := by simp only [List.length_cons]; omega
theorem oL1 {x0 x1 : Value} {r : List Value} : 1 < (x0 :: x1 :: r).length := by simp only [List.length_cons]; omega
theorem oL2 {x0 x1 x2 : Value} {r : List Value} : 2 < (x0 :: x1 :: x2 :: r).length := by simp only [List.length_cons]; omega
theorem oL3 {x0 x1 x2 x3 : Value} {r : List Value} : 3 < (x0 :: x1 :: x2 :: x3 :: r).length := by simp only [List.length_cons]; omega
theorem oL4 {x0 x1 x2 x3 x4 : Value} {r : List Value} : 4 < (x0 :: x1 :: x2 :: x3 :: x4 :: r).length := by simp only [List.length_cons]; omega
theorem oL5 {x0 x1 x2 x3 x4 x5 : Value} {r : List Value} : 5 < (x0 :: x1 :: x2 :: x3 :: x4 :: x5 :: r).length := by simp only [List.length_cons]; omega
theorem oPk0 {x0 x1 x2 x3 x4 x5 x6 x7 x8 x9 x10 x11 x12 x13 : Addr × oDsc} {r : oDs} (hr : oW p l e R s m args below meth c Z h0 P [x0,x1,x2,x3,x8,x9,x10,x11,x12,x13,x4,x6,x7,x5] cells slots pc Ls S) : oW p l e R s m args below meth c Z h0 P (x0::x1::x2::x3::x4::x5::x6::x7::x8::x9::x10::x11::x12::x13::r) cells slots pc Ls S:=oW.pick [0,1,2,3,8,9,10,11,12,13,4,6,7,5] (by decide) rfl hr
theorem oPk1 {x0 x1 x2 x3 x4 x5 x6 x7 x8 x9 x10 x11 x12 x13 x14 x15 x16 : Addr × oDsc} {r : oDs} (hr : oW p l e R s m args below meth c Z h0 P [x0,x1,x2,x3,x4,x5,x6,x7,x8,x9,x14,x15,x16,x13] cells slots pc Ls S) : oW p l e R s m args below meth c Z h0 P (x0::x1::x2::x3::x4::x5::x6::x7::x8::x9::x10::x11::x12::x13::x14::x15::x16::r) cells slots pc Ls S:=oW.pick [0,1,2,3,4,5,6,7,8,9,14,15,16,13] (by decide) rfl hr
theorem oPk2 {x0 x1 x2 x3 x4 x5 x6 x7 x8 x9 x10 x11 x12 x13 x14 : Addr × oDsc} {r : oDs} (hr : oW p l e R s m args below meth c Z h0 P [x0,x1,x2,x3,x4,x5,x6,x7,x8,x9,x10,x11,x12,x14] cells slots pc Ls S) : oW p l e R s m args below meth c Z h0 P (x0::x1::x2::x3::x4::x5::x6::x7::x8::x9::x10::x11::x12::x13::x14::r) cells slots pc Ls S:=oW.pick [0,1,2,3,4,5,6,7,8,9,10,11,12,14] (by decide) rfl hr
theorem oPk3 {x0 x1 x2 x3 x4 x5 x6 x7 x8 x9 x10 x11 x12 x13 : Addr × oDsc} {r : oDs} (hr : oW p l e R s m args below meth c Z h0 P [x1,x0,x2,x3,x4,x5,x6,x7,x8,x9,x10,x11,x12,x13] cells slots pc Ls S) : oW p l e R s m args below meth c Z h0 P (x0::x1::x2::x3::x4::x5::x6::x7::x8::x9::x10::x11::x12::x13::r) cells slots pc Ls S:=oW.pick [1,0,2,3,4,5,6,7,8,9,10,11,12,13] (by decide) rfl hr
theorem oPk4 {x0 x1 x2 x3 x4 x5 x6 x7 x8 x9 x10 x11 x12 x13 : Addr × oDsc} {r : oDs} (hr : oW p l e R s m args below meth c Z h0 P [x2,x0,x1,x3,x4,x5,x6,x7,x8,x9,x10,x11,x12,x13] cells slots pc Ls S) : oW p l e R s m args below meth c Z h0 P (x0::x1::x2::x3::x4::x5::x6::x7::x8::x9::x10::x11::x12::x13::r) cells slots pc Ls S:=oW.pick [2,0,1,3,4,5,6,7,8,9,10,11,12,13] (by decide) rfl hr
theorem Hd (pc' : Nat) (pc3 : Nat) {o : Int} {x y : Int32} (K : oK p s m meth c Z own by0 ml ret nm) (hd : decode by0 pc=.ok (.if_icmp .gt o,3)) (hy : y < x→oW p l e R s m args below meth c Z h0 P ds cells slots pc' Ls S) (hn : ¬ y < x→oW p l e R s m args below meth c Z h0 P ds cells slots pc3 Ls S) (ho : 0≤(pc : Int) + o:=by decide) (hp : ((pc : Int) + o).toNat=pc':=by decide) (h3 : pc + 3=pc3:=by exact rfl) : oW p l e R s m args below meth c Z h0 P ds cells slots pc Ls (.int y::.int x::S):=oW.icmp_gt K hd ho hp h3 hy hn
theorem Hg (pc' : Nat) (pc3 : Nat) {o : Int} {x : Int32} (K : oK p s m meth c Z own by0 ml ret nm) (hd : decode by0 pc=.ok (.ifCond .gt o,3)) (hy : 0 < x→oW p l e R s m args below meth c Z h0 P ds cells slots pc' Ls S) (hn : ¬ 0 < x→oW p l e R s m args below meth c Z h0 P ds cells slots pc3 Ls S) (ho : 0≤(pc : Int) + o:=by decide) (hp : ((pc : Int) + o).toNat=pc':=by decide) (h3 : pc + 3=pc3:=by exact rfl) : oW p l e R s m args below meth c Z h0 P ds cells slots pc Ls (.int x::S):=oW.if_gt K hd ho hp h3 hy hn
theorem Yj (pc' : Nat) {k : Nat} {v : Int32} (K : oK p s m meth c Z own by0 ml ret nm) (hd : decode by0 pc=.ok (.istore k,2)) (hl : storeLocals Ls k (.int v)=some Ls') (hr : oW p l e R s m args below meth c Z h0 P ds cells slots pc' Ls' (S)) (hp : pc + 2=pc':=by exact rfl) : oW p l e R s m args below meth c Z h0 P ds cells slots pc Ls (.int v::S):=oW.istore K hd hl hp hr
theorem Y9 (pc' : Nat) {x y v : Int32} (K : oK p s m meth c Z own by0 ml ret nm) (hd : decode by0 pc=.ok (.isub,1)) (hv : v=x - y) (hr : oW p l e R s m args below meth c Z h0 P ds cells slots pc' Ls (.int v::S)) (hp : pc + 1=pc':=by exact rfl) : oW p l e R s m args below meth c Z h0 P ds cells slots pc Ls (.int y::.int x::S):=oW.isub K hd hv hp hr
theorem Y0 (pc' : Nat) {x y v : Int32} (K : oK p s m meth c Z own by0 ml ret nm) (hd : decode by0 pc=.ok (.iadd,1)) (hv : v=x + y) (hr : oW p l e R s m args below meth c Z h0 P ds cells slots pc' Ls (.int v::S)) (hp : pc + 1=pc':=by exact rfl) : oW p l e R s m args below meth c Z h0 P ds cells slots pc Ls (.int y::.int x::S):=oW.iadd K hd hv hp hr
theorem Ht (pc' : Nat) {x v : Int32} (K : oK p s m meth c Z own by0 ml ret nm) (hd : decode by0 pc=.ok (.ineg,1)) (hv : v=-x) (hr : oW p l e R s m args below meth c Z h0 P ds cells slots pc' Ls (.int v::S)) (hp : pc + 1=pc':=by exact rfl) : oW p l e R s m args below meth c Z h0 P ds cells slots pc Ls (.int x::S):=oW.ineg K hd hv hp hr
theorem G4 (pc' : Nat) {x y v : Int32} (K : oK p s m meth c Z own by0 ml ret nm) (hd : decode by0 pc=.ok (.iushr,1)) (hv : v=XT.ushr x y) (hr : oW p l e R s m args below meth c Z h0 P ds cells slots pc' Ls (.int v::S)) (hp : pc + 1=pc':=by exact rfl) : oW p l e R s m args below meth c Z h0 P ds cells slots pc Ls (.int y::.int x::S):=oW.iushr K hd hv hp hr
theorem H6 (pc' : Nat) (pc3 : Nat) {o : Int} {x : Int32} (K : oK p s m meth c Z own by0 ml ret nm) (hd : decode by0 pc=.ok (.ifCond .ge o,3)) (hy : ¬ x < 0→oW p l e R s m args below meth c Z h0 P ds cells slots pc' Ls S) (hn : x < 0→oW p l e R s m args below meth c Z h0 P ds cells slots pc3 Ls S) (ho : 0≤(pc : Int) + o:=by decide) (hp : ((pc : Int) + o).toNat=pc':=by decide) (h3 : pc + 3=pc3:=by exact rfl) : oW p l e R s m args below meth c Z h0 P ds cells slots pc Ls (.int x::S):=oW.if_ge K hd ho hp h3 hy hn
theorem Y2 (pc' : Nat) (pc3 : Nat) {o : Int} {x : Int32} (K : oK p s m meth c Z own by0 ml ret nm) (hd : decode by0 pc=.ok (.ifCond .le o,3)) (hy : ¬ 0 < x→oW p l e R s m args below meth c Z h0 P ds cells slots pc' Ls S) (hn : 0 < x→oW p l e R s m args below meth c Z h0 P ds cells slots pc3 Ls S) (ho : 0≤(pc : Int) + o:=by decide) (hp : ((pc : Int) + o).toNat=pc':=by decide) (h3 : pc + 3=pc3:=by exact rfl) : oW p l e R s m args below meth c Z h0 P ds cells slots pc Ls (.int x::S):=oW.if_le K hd ho hp h3 hy hn
theorem H7 (pc' : Nat) (pc3 : Nat) {o : Int} {x : Int32} (K : oK p s m meth c Z own by0 ml ret nm) (hd : decode by0 pc=.ok (.ifCond .lt o,3)) (hy : x < 0→oW p l e R s m args below meth c Z h0 P ds cells slots pc' Ls S) (hn : ¬ x < 0→oW p l e R s m args below meth c Z h0 P ds cells slots pc3 Ls S) (ho : 0≤(pc : Int) + o:=by decide) (hp : ((pc : Int) + o).toNat=pc':=by decide) (h3 : pc + 3=pc3:=by exact rfl) : oW p l e R s m args below meth c Z h0 P ds cells slots pc Ls (.int x::S):=oW.if_lt K hd ho hp h3 hy hn
theorem Gm (pc' : Nat) (pc3 : Nat) {o : Int} {x y : Int32} (K : oK p s m meth c Z own by0 ml ret nm) (hd : decode by0 pc=.ok (.if_icmp .ge o,3)) (hy : ¬ x < y→oW p l e R s m args below meth c Z h0 P ds cells slots pc' Ls S) (hn : x < y→oW p l e R s m args below meth c Z h0 P ds cells slots pc3 Ls S) (ho : 0≤(pc : Int) + o:=by decide) (hp : ((pc : Int) + o).toNat=pc':=by decide) (h3 : pc + 3=pc3:=by exact rfl) : oW p l e R s m args below meth c Z h0 P ds cells slots pc Ls (.int y::.int x::S):=oW.icmp_ge K hd ho hp h3 hy hn
theorem Yr (i : Nat) (k : Nat) (pc' : Nat) {a : Addr} {vs : List Value} {j : Int32} {x : Int32} (K : oK p s m meth c Z own by0 ml ret nm) (hd : decode by0 pc=.ok (.iastore,1)) (hi : ds[i]?=some (a,.inl (.int,vs))) (hds : ds.set i (a,.inl (.int,vs.set k (.int x)))=ds') (hr : oW p l e R s m args below meth c Z h0 P ds' cells slots pc' Ls S) (hj : j=Int32.ofNat k:=by exact rfl) (hk : k < 2 ^ 31:=by decide) (hl : k < vs.length:=by exact Nat.lt_of_sub_eq_succ rfl) (hp : pc + 1=pc':=by exact rfl) : oW p l e R s m args below meth c Z h0 P ds cells slots pc Ls (.int x::.int j::.ref a::S):=oW.iastore K hd hi hj hk hl hds hp hr
theorem G1 (pc' : Nat) {k : Nat} {cst : Int} {x v : Int32} (K : oK p s m meth c Z own by0 ml ret nm) (hd : decode by0 pc=.ok (.iinc k cst,3)) (hv : v=x + Int32.ofInt cst) (hs : storeLocals Ls k (.int v)=some Ls') (hr : oW p l e R s m args below meth c Z h0 P ds cells slots pc' Ls' (S)) (hl : Ls[k]?=some (.val (.int x)):=by exact rfl) (hp : pc + 3=pc':=by exact rfl) : oW p l e R s m args below meth c Z h0 P ds cells slots pc Ls (S):=oW.iinc K hd hl hv hs hp hr
theorem Yn (i : Nat) (k : Nat) (pc' : Nat) {a : Addr} {vs : List Value} {j : Int32} {v : Value} (K : oK p s m meth c Z own by0 ml ret nm) (hd : decode by0 pc=.ok (.iaload,1)) (hr : oW p l e R s m args below meth c Z h0 P ds cells slots pc' Ls (v::S)) (hi : ds[i]?=some (a,.inl (.int,vs)):=by exact rfl) (hj : j=Int32.ofNat k:=by exact rfl) (hk : k < 2 ^ 31:=by decide) (hv : vs[k]?=some v:=by exact rfl) (hp : pc + 1=pc':=by exact rfl) : oW p l e R s m args below meth c Z h0 P ds cells slots pc Ls (.int j::.ref a::S):=oW.iaload K hd hi hj hk hv hp hr
theorem Hu (pc' : Nat) (pc3 : Nat) {o : Int} {x : Int32} (K : oK p s m meth c Z own by0 ml ret nm) (hd : decode by0 pc=.ok (.ifCond .ne o,3)) (hy : ¬ x=0→oW p l e R s m args below meth c Z h0 P ds cells slots pc' Ls S) (hn : x=0→oW p l e R s m args below meth c Z h0 P ds cells slots pc3 Ls S) (ho : 0≤(pc : Int) + o:=by decide) (hp : ((pc : Int) + o).toNat=pc':=by decide) (h3 : pc + 3=pc3:=by exact rfl) : oW p l e R s m args below meth c Z h0 P ds cells slots pc Ls (.int x::S):=oW.if_ne K hd ho hp h3 hy hn
theorem G9 (pc' : Nat) (pc3 : Nat) {o : Int} {x y : Int32} (K : oK p s m meth c Z own by0 ml ret nm) (hd : decode by0 pc=.ok (.if_icmp .eq o,3)) (hy : x=y→oW p l e R s m args below meth c Z h0 P ds cells slots pc' Ls S) (hn : ¬ x=y→oW p l e R s m args below meth c Z h0 P ds cells slots pc3 Ls S) (ho : 0≤(pc : Int) + o:=by decide) (hp : ((pc : Int) + o).toNat=pc':=by decide) (h3 : pc + 3=pc3:=by exact rfl) : oW p l e R s m args below meth c Z h0 P ds cells slots pc Ls (.int y::.int x::S):=oW.icmp_eq K hd ho hp h3 hy hn
theorem Gh (pc' : Nat) {x : Int32} {v : UInt64} (K : oK p s m meth c Z own by0 ml ret nm) (hd : decode by0 pc=.ok (.i2d,1)) (hv : v=FP.i2d x) (hr : oW p l e R s m args below meth c Z h0 P ds cells slots pc' Ls (.double v::S)) (hp : pc + 1=pc':=by exact rfl) : oW p l e R s m args below meth c Z h0 P ds cells slots pc Ls (.int x::S):=oW.i2d K hd hv hp hr
theorem Hm (pc' : Nat) (pc3 : Nat) {o : Int} {x y : Int32} (K : oK p s m meth c Z own by0 ml ret nm) (hd : decode by0 pc=.ok (.if_icmp .le o,3)) (hy : ¬ y < x→oW p l e R s m args below meth c Z h0 P ds cells slots pc' Ls S) (hn : y < x→oW p l e R s m args below meth c Z h0 P ds cells slots pc3 Ls S) (ho : 0≤(pc : Int) + o:=by decide) (hp : ((pc : Int) + o).toNat=pc':=by decide) (h3 : pc + 3=pc3:=by exact rfl) : oW p l e R s m args below meth c Z h0 P ds cells slots pc Ls (.int y::.int x::S):=oW.icmp_le K hd ho hp h3 hy hn
theorem Yy (pc' : Nat) (pc3 : Nat) {o : Int} {x y : Int32} (K : oK p s m meth c Z own by0 ml ret nm) (hd : decode by0 pc=.ok (.if_icmp .ge o,3)) (hn : oW p l e R s m args below meth c Z h0 P ds cells slots pc3 Ls S) (ho : 0≤(pc : Int) + o:=by decide) (hp : ((pc : Int) + o).toNat=pc':=by decide) (h3 : pc + 3=pc3:=by exact rfl) (hy : ¬ (¬ x < y):=by decide) : oW p l e R s m args below meth c Z h0 P ds cells slots pc Ls (.int y::.int x::S):=oW.icmp_ge K hd ho hp h3 (fun q=>absurd q hy) (fun _=>hn)
theorem Hv (pc' : Nat) (pc3 : Nat) {o : Int} {x : Int32} (K : oK p s m meth c Z own by0 ml ret nm) (hd : decode by0 pc=.ok (.ifCond .eq o,3)) (hy : oW p l e R s m args below meth c Z h0 P ds cells slots pc' Ls S) (ho : 0≤(pc : Int) + o:=by decide) (hp : ((pc : Int) + o).toNat=pc':=by decide) (h3 : pc + 3=pc3:=by exact rfl) (hn : ¬ (¬ x=0):=by decide) : oW p l e R s m args below meth c Z h0 P ds cells slots pc Ls (.int x::S):=oW.if_eq K hd ho hp h3 (fun _=>hy) (fun q=>absurd q hn)
theorem Ha (pc' : Nat) (pc3 : Nat) {o : Int} {x : Int32} (K : oK p s m meth c Z own by0 ml ret nm) (hd : decode by0 pc=.ok (.ifCond .eq o,3)) (hn : oW p l e R s m args below meth c Z h0 P ds cells slots pc3 Ls S) (ho : 0≤(pc : Int) + o:=by decide) (hp : ((pc : Int) + o).toNat=pc':=by decide) (h3 : pc + 3=pc3:=by exact rfl) (hy : ¬ (x=0):=by decide) : oW p l e R s m args below meth c Z h0 P ds cells slots pc Ls (.int x::S):=oW.if_eq K hd ho hp h3 (fun q=>absurd q hy) (fun _=>hn)
theorem Y8 (pc' : Nat) (pc3 : Nat) {o : Int} {x y : Int32} (K : oK p s m meth c Z own by0 ml ret nm) (hd : decode by0 pc=.ok (.if_icmp .ge o,3)) (hy : oW p l e R s m args below meth c Z h0 P ds cells slots pc' Ls S) (ho : 0≤(pc : Int) + o:=by decide) (hp : ((pc : Int) + o).toNat=pc':=by decide) (h3 : pc + 3=pc3:=by exact rfl) (hn : ¬ (x < y):=by decide) : oW p l e R s m args below meth c Z h0 P ds cells slots pc Ls (.int y::.int x::S):=oW.icmp_ge K hd ho hp h3 (fun _=>hy) (fun q=>absurd q hn)
theorem Ym (v : Int32) (pc' : Nat) {x y : Int32} (K : oK p s m meth c Z own by0 ml ret nm) (hd : decode by0 pc=.ok (.iadd,1)) (hr : oW p l e R s m args below meth c Z h0 P ds cells slots pc' Ls (.int v::S)) (hv : v=x + y:=by decide) (hp : pc + 1=pc':=by exact rfl) : oW p l e R s m args below meth c Z h0 P ds cells slots pc Ls (.int y::.int x::S):=oW.iadd K hd hv hp hr
theorem Gc (pc' : Nat) (pc3 : Nat) {o : Int} {x : Int32} (K : oK p s m meth c Z own by0 ml ret nm) (hd : decode by0 pc=.ok (.ifCond .ne o,3)) (hn : oW p l e R s m args below meth c Z h0 P ds cells slots pc3 Ls S) (ho : 0≤(pc : Int) + o:=by decide) (hp : ((pc : Int) + o).toNat=pc':=by decide) (h3 : pc + 3=pc3:=by exact rfl) (hy : ¬ (¬ x=0):=by decide) : oW p l e R s m args below meth c Z h0 P ds cells slots pc Ls (.int x::S):=oW.if_ne K hd ho hp h3 (fun q=>absurd q hy) (fun _=>hn)
theorem G2 (v : UInt64) (pc' : Nat) {x : Int32} (K : oK p s m meth c Z own by0 ml ret nm) (hd : decode by0 pc=.ok (.i2d,1)) (hr : oW p l e R s m args below meth c Z h0 P ds cells slots pc' Ls (.double v::S)) (hv : v=FP.i2d x:=by decide +kernel) (hp : pc + 1=pc':=by exact rfl) : oW p l e R s m args below meth c Z h0 P ds cells slots pc Ls (.int x::S):=oW.i2d K hd hv hp hr
theorem Y4 (v : Int32) (pc' : Nat) {x y : Int32} (K : oK p s m meth c Z own by0 ml ret nm) (hd : decode by0 pc=.ok (.isub,1)) (hr : oW p l e R s m args below meth c Z h0 P ds cells slots pc' Ls (.int v::S)) (hv : v=x - y:=by decide) (hp : pc + 1=pc':=by exact rfl) : oW p l e R s m args below meth c Z h0 P ds cells slots pc Ls (.int y::.int x::S):=oW.isub K hd hv hp hr
theorem Hn (pc' : Nat) (pc3 : Nat) {o : Int} {x y : Int32} (K : oK p s m meth c Z own by0 ml ret nm) (hd : decode by0 pc=.ok (.if_icmp .gt o,3)) (hn : oW p l e R s m args below meth c Z h0 P ds cells slots pc3 Ls S) (ho : 0≤(pc : Int) + o:=by decide) (hp : ((pc : Int) + o).toNat=pc':=by decide) (h3 : pc + 3=pc3:=by exact rfl) (hy : ¬ (y < x):=by decide) : oW p l e R s m args below meth c Z h0 P ds cells slots pc Ls (.int y::.int x::S):=oW.icmp_gt K hd ho hp h3 (fun q=>absurd q hy) (fun _=>hn)
theorem Hp (v : Int32) (pc' : Nat) {x y : Int32} (K : oK p s m meth c Z own by0 ml ret nm) (hd : decode by0 pc=.ok (.iushr,1)) (hr : oW p l e R s m args below meth c Z h0 P ds cells slots pc' Ls (.int v::S)) (hv : v=XT.ushr x y:=by decide) (hp : pc + 1=pc':=by exact rfl) : oW p l e R s m args below meth c Z h0 P ds cells slots pc Ls (.int y::.int x::S):=oW.iushr K hd hv hp hr
theorem G7 (i : Nat) (k : Nat) (pc' : Nat) {a : Addr} {vs : List Value} {j : Int32} {v : Value} (K : oK p s m meth c Z own by0 ml ret nm) (hd : decode by0 pc=.ok (.iaload,1)) (hi : ds[i]?=some (a,.inl (.int,vs))) (hr : oW p l e R s m args below meth c Z h0 P ds cells slots pc' Ls (v::S)) (hj : j=Int32.ofNat k:=by exact rfl) (hk : k < 2 ^ 31:=by decide) (hv : vs[k]?=some v:=by exact rfl) (hp : pc + 1=pc':=by exact rfl) : oW p l e R s m args below meth c Z h0 P ds cells slots pc Ls (.int j::.ref a::S):=oW.iaload K hd hi hj hk hv hp hr
theorem Hb (pc' : Nat) (pc3 : Nat) {o : Int} {x y : Int32} (K : oK p s m meth c Z own by0 ml ret nm) (hd : decode by0 pc=.ok (.if_icmp .gt o,3)) (hy : oW p l e R s m args below meth c Z h0 P ds cells slots pc' Ls S) (ho : 0≤(pc : Int) + o:=by decide) (hp : ((pc : Int) + o).toNat=pc':=by decide) (h3 : pc + 3=pc3:=by exact rfl) (hn : ¬ (¬ y < x):=by decide) : oW p l e R s m args below meth c Z h0 P ds cells slots pc Ls (.int y::.int x::S):=oW.icmp_gt K hd ho hp h3 (fun _=>hy) (fun q=>absurd q hn)
theorem G5 (v : Int32) (pc' : Nat) {x : Int32} (K : oK p s m meth c Z own by0 ml ret nm) (hd : decode by0 pc=.ok (.ineg,1)) (hr : oW p l e R s m args below meth c Z h0 P ds cells slots pc' Ls (.int v::S)) (hv : v=-x:=by decide) (hp : pc + 1=pc':=by exact rfl) : oW p l e R s m args below meth c Z h0 P ds cells slots pc Ls (.int x::S):=oW.ineg K hd hv hp hr
theorem He (i : Nat) (v : Int32) (pc' : Nat) {a : Addr} {ty : FieldType} {vs : List Value} (K : oK p s m meth c Z own by0 ml ret nm) (hd : decode by0 pc=.ok (.arraylength,1)) (hi : ds[i]?=some (a,.inl (ty,vs))) (hr : oW p l e R s m args below meth c Z h0 P ds cells slots pc' Ls (.int v::S)) (hv : v=Int32.ofNat vs.length:=by exact rfl) (hp : pc + 1=pc':=by exact rfl) : oW p l e R s m args below meth c Z h0 P ds cells slots pc Ls (.ref a::S):=oW.alen K hd hi hv hp hr
theorem Yw (pc' : Nat) (pc3 : Nat) {o : Int} {x : Int32} (K : oK p s m meth c Z own by0 ml ret nm) (hd : decode by0 pc=.ok (.ifCond .lt o,3)) (hn : oW p l e R s m args below meth c Z h0 P ds cells slots pc3 Ls S) (ho : 0≤(pc : Int) + o:=by decide) (hp : ((pc : Int) + o).toNat=pc':=by decide) (h3 : pc + 3=pc3:=by exact rfl) (hy : ¬ (x < 0):=by decide) : oW p l e R s m args below meth c Z h0 P ds cells slots pc Ls (.int x::S):=oW.if_lt K hd ho hp h3 (fun q=>absurd q hy) (fun _=>hn)
theorem Ys (pc' : Nat) (pc3 : Nat) {o : Int} {x : Int32} (K : oK p s m meth c Z own by0 ml ret nm) (hd : decode by0 pc=.ok (.ifCond .lt o,3)) (hy : oW p l e R s m args below meth c Z h0 P ds cells slots pc' Ls S) (ho : 0≤(pc : Int) + o:=by decide) (hp : ((pc : Int) + o).toNat=pc':=by decide) (h3 : pc + 3=pc3:=by exact rfl) (hn : ¬ (¬ x < 0):=by decide) : oW p l e R s m args below meth c Z h0 P ds cells slots pc Ls (.int x::S):=oW.if_lt K hd ho hp h3 (fun _=>hy) (fun q=>absurd q hn)
theorem Hw (pc' : Nat) (pc3 : Nat) {o : Int} {x : Int32} (K : oK p s m meth c Z own by0 ml ret nm) (hd : decode by0 pc=.ok (.ifCond .le o,3)) (hy : oW p l e R s m args below meth c Z h0 P ds cells slots pc' Ls S) (ho : 0≤(pc : Int) + o:=by decide) (hp : ((pc : Int) + o).toNat=pc':=by decide) (h3 : pc + 3=pc3:=by exact rfl) (hn : ¬ (0 < x):=by decide) : oW p l e R s m args below meth c Z h0 P ds cells slots pc Ls (.int x::S):=oW.if_le K hd ho hp h3 (fun _=>hy) (fun q=>absurd q hn)
theorem Hq (pc' : Nat) (pc3 : Nat) {o : Int} {x : Int32} (K : oK p s m meth c Z own by0 ml ret nm) (hd : decode by0 pc=.ok (.ifCond .le o,3)) (hn : oW p l e R s m args below meth c Z h0 P ds cells slots pc3 Ls S) (ho : 0≤(pc : Int) + o:=by decide) (hp : ((pc : Int) + o).toNat=pc':=by decide) (h3 : pc + 3=pc3:=by exact rfl) (hy : ¬ (¬ 0 < x):=by decide) : oW p l e R s m args below meth c Z h0 P ds cells slots pc Ls (.int x::S):=oW.if_le K hd ho hp h3 (fun q=>absurd q hy) (fun _=>hn)
theorem Yg (v : Int32) (pc' : Nat) {k : Nat} {cst : Int} {x : Int32} (K : oK p s m meth c Z own by0 ml ret nm) (hd : decode by0 pc=.ok (.iinc k cst,3)) (hs : storeLocals Ls k (.int v)=some Ls') (hr : oW p l e R s m args below meth c Z h0 P ds cells slots pc' Ls' (S)) (hl : Ls[k]?=some (.val (.int x)):=by exact rfl) (hv : v=x + Int32.ofInt cst:=by decide) (hp : pc + 3=pc':=by exact rfl) : oW p l e R s m args below meth c Z h0 P ds cells slots pc Ls (S):=oW.iinc K hd hl hv hs hp hr
theorem Yf (i : Nat) (v : Int32) (pc' : Nat) {a : Addr} {ty : FieldType} {vs : List Value} (K : oK p s m meth c Z own by0 ml ret nm) (hd : decode by0 pc=.ok (.arraylength,1)) (hr : oW p l e R s m args below meth c Z h0 P ds cells slots pc' Ls (.int v::S)) (hi : ds[i]?=some (a,.inl (ty,vs)):=by exact rfl) (hv : v=Int32.ofNat vs.length:=by exact rfl) (hp : pc + 1=pc':=by exact rfl) : oW p l e R s m args below meth c Z h0 P ds cells slots pc Ls (.ref a::S):=oW.alen K hd hi hv hp hr
theorem Hh (pc' : Nat) {x y v : Int32} (K : oK p s m meth c Z own by0 ml ret nm) (hd : decode by0 pc=.ok (.imul,1)) (hv : v=x * y) (hr : oW p l e R s m args below meth c Z h0 P ds cells slots pc' Ls (.int v::S)) (hp : pc + 1=pc':=by exact rfl) : oW p l e R s m args below meth c Z h0 P ds cells slots pc Ls (.int y::.int x::S):=oW.imul K hd hv hp hr
theorem Hf (pc' : Nat) (pc3 : Nat) {o : Int} {x : Int32} (K : oK p s m meth c Z own by0 ml ret nm) (hd : decode by0 pc=.ok (.ifCond .eq o,3)) (hy : x=0→oW p l e R s m args below meth c Z h0 P ds cells slots pc' Ls S) (hn : ¬ x=0→oW p l e R s m args below meth c Z h0 P ds cells slots pc3 Ls S) (ho : 0≤(pc : Int) + o:=by decide) (hp : ((pc : Int) + o).toNat=pc':=by decide) (h3 : pc + 3=pc3:=by exact rfl) : oW p l e R s m args below meth c Z h0 P ds cells slots pc Ls (.int x::S):=oW.if_eq K hd ho hp h3 hy hn
theorem Gj (pc' : Nat) (pc3 : Nat) {o : Int} {x y : Int32} (K : oK p s m meth c Z own by0 ml ret nm) (hd : decode by0 pc=.ok (.if_icmp .ne o,3)) (hy : oW p l e R s m args below meth c Z h0 P ds cells slots pc' Ls S) (ho : 0≤(pc : Int) + o:=by decide) (hp : ((pc : Int) + o).toNat=pc':=by decide) (h3 : pc + 3=pc3:=by exact rfl) (hn : ¬ (x=y):=by decide) : oW p l e R s m args below meth c Z h0 P ds cells slots pc Ls (.int y::.int x::S):=oW.icmp_ne K hd ho hp h3 (fun _=>hy) (fun q=>absurd q hn)
theorem Gf (Ls' : Array Slot) (pc' : Nat) {k : Nat} {v : Int64} (K : oK p s m meth c Z own by0 ml ret nm) (hd : decode by0 pc=.ok (.lstore k,2)) (hr : oW p l e R s m args below meth c Z h0 P ds cells slots pc' Ls' (S)) (hl : storeLocals Ls k (.long v)=some Ls':=by exact rfl) (hp : pc + 2=pc':=by exact rfl) : oW p l e R s m args below meth c Z h0 P ds cells slots pc Ls (.long v::S):=oW.lstore K hd hl hp hr
theorem Yp (i : Nat) (k : Nat) (pc' : Nat) {a : Addr} {vs : List Value} {j : Int32} {x : Int64} (K : oK p s m meth c Z own by0 ml ret nm) (hd : decode by0 pc=.ok (.lastore,1)) (hi : ds[i]?=some (a,.inl (.long,vs))) (hl : k < vs.length) (hds : ds.set i (a,.inl (.long,vs.set k (.long x)))=ds') (hr : oW p l e R s m args below meth c Z h0 P ds' cells slots pc' Ls S) (hj : j=Int32.ofNat k:=by exact rfl) (hk : k < 2 ^ 31:=by decide) (hp : pc + 1=pc':=by exact rfl) : oW p l e R s m args below meth c Z h0 P ds cells slots pc Ls (.long x::.int j::.ref a::S):=oW.lastore K hd hi hj hk hl hds hp hr
theorem Gq (v : Int32) (pc' : Nat) {x y : Int32} (K : oK p s m meth c Z own by0 ml ret nm) (hd : decode by0 pc=.ok (.imul,1)) (hr : oW p l e R s m args below meth c Z h0 P ds cells slots pc' Ls (.int v::S)) (hv : v=x * y:=by decide) (hp : pc + 1=pc':=by exact rfl) : oW p l e R s m args below meth c Z h0 P ds cells slots pc Ls (.int y::.int x::S):=oW.imul K hd hv hp hr
theorem Yt (i : Nat) (k : Nat) (pc' : Nat) {a : Addr} {vs : List Value} {j : Int32} {v : Value} (K : oK p s m meth c Z own by0 ml ret nm) (hd : decode by0 pc=.ok (.laload,1)) (hr : oW p l e R s m args below meth c Z h0 P ds cells slots pc' Ls (v::S)) (hi : ds[i]?=some (a,.inl (.long,vs)):=by exact rfl) (hj : j=Int32.ofNat k:=by exact rfl) (hk : k < 2 ^ 31:=by decide) (hv : vs[k]?=some v:=by exact rfl) (hp : pc + 1=pc':=by exact rfl) : oW p l e R s m args below meth c Z h0 P ds cells slots pc Ls (.int j::.ref a::S):=oW.laload K hd hi hj hk hv hp hr
theorem Hi (pc' : Nat) (pc3 : Nat) {o : Int} {x : Int32} (K : oK p s m meth c Z own by0 ml ret nm) (hd : decode by0 pc=.ok (.ifCond .ne o,3)) (hy : oW p l e R s m args below meth c Z h0 P ds cells slots pc' Ls S) (ho : 0≤(pc : Int) + o:=by decide) (hp : ((pc : Int) + o).toNat=pc':=by decide) (h3 : pc + 3=pc3:=by exact rfl) (hn : ¬ (x=0):=by decide) : oW p l e R s m args below meth c Z h0 P ds cells slots pc Ls (.int x::S):=oW.if_ne K hd ho hp h3 (fun _=>hy) (fun q=>absurd q hn)
theorem Gr (pc' : Nat) (pc3 : Nat) {o : Int} {x y : Int32} (K : oK p s m meth c Z own by0 ml ret nm) (hd : decode by0 pc=.ok (.if_icmp .ne o,3)) (hn : oW p l e R s m args below meth c Z h0 P ds cells slots pc3 Ls S) (ho : 0≤(pc : Int) + o:=by decide) (hp : ((pc : Int) + o).toNat=pc':=by decide) (h3 : pc + 3=pc3:=by exact rfl) (hy : ¬ (¬ x=y):=by decide) : oW p l e R s m args below meth c Z h0 P ds cells slots pc Ls (.int y::.int x::S):=oW.icmp_ne K hd ho hp h3 (fun q=>absurd q hy) (fun _=>hn)
theorem Yx (pc' : Nat) (pc3 : Nat) {o : Int} {x y : Int32} (K : oK p s m meth c Z own by0 ml ret nm) (hd : decode by0 pc=.ok (.if_icmp .eq o,3)) (hy : oW p l e R s m args below meth c Z h0 P ds cells slots pc' Ls S) (ho : 0≤(pc : Int) + o:=by decide) (hp : ((pc : Int) + o).toNat=pc':=by decide) (h3 : pc + 3=pc3:=by exact rfl) (hn : ¬ (¬ x=y):=by decide) : oW p l e R s m args below meth c Z h0 P ds cells slots pc Ls (.int y::.int x::S):=oW.icmp_eq K hd ho hp h3 (fun _=>hy) (fun q=>absurd q hn)
theorem oCo {l : Launch} {Z : State} {h0 : Heap} {ws : List Jvm.Cond} {y : MethodName} {by0 : ByteArray} {ml : Nat} {ret : Option FieldType} {rm : Room} {as' : Array Value} {ds : oDs} {P : Option Value → oDs → Prop} (Ls : Array Slot) (hb : ∀ p e s m below meth c, oK p s m meth c Z y.cls by0 ml ret y.name → oW p l e rm s m as' below meth c Z h0 P ds 0 0 0 Ls []) (hpl : plainFor y = true := by exact plainFor_of_name (by first | (simp [plainName, overriddenIn]; done) | decide +kernel)) (hef : ∀ m, entryFrame m as' ml = mkF m 0 Ls [] := by exact fun m => by first | (simp [entryFrame, mkF, argsToLocals, Value.category]; done) | rfl) : oCtr l Z h0 ws y by0 ml ret rm as' ds P := oCtr.of (Ls := Ls) hpl hef hb
end Short
section Nums
open Jvm.FP Jvm.Free.Fl
theorem oTs : (0 : Int32).toInt = 0 ∧ (1 : Int32).toInt = 1 ∧ (2 : Int32).toInt = 2 ∧ (3 : Int32).toInt = 3 ∧ (4 : Int32).toInt = 4 ∧ (5 : Int32).toInt = 5 ∧ (6 : Int32).toInt = 6 ∧ (7 : Int32).toInt = 7 ∧ (8 : Int32).toInt = 8 ∧ (9 : Int32).toInt = 9 ∧ (-1 : Int32).toInt = -1 ∧ (0 : Int64).toInt = 0 ∧ (1 : Int64).toInt = 1 ∧ (2 : Int64).toInt = 2 ∧ (8 : Int64).toInt = 8 ∧ (-1 : Int64).toInt = -1 := by decide
theorem oOm {q : Prop} (h : q := by first | omega | (have oTs' := oTs; omega) | (simp only [Int32.reduceToInt, Int64.reduceToInt]; omega)) : q := h
theorem oB32 (x : Int32) : -2147483648 ≤ x.toInt ∧ x.toInt ≤ 2147483647 := by
  have h1 := Int32.le_toInt x; have h2 := Int32.toInt_lt x; omega
theorem oB64 (x : Int64) : -9223372036854775808 ≤ x.toInt ∧ x.toInt ≤ 9223372036854775807 := by
  have h1 := Int64.le_toInt x; have h2 := Int64.toInt_lt x; omega
theorem oNN {i : Int} {x : UInt64} (h : Core.DInt i x) : NoNaN64 x := val64_no.mpr (Core.DInt_ne_nan h)
theorem oI2D {a : Int32} {v : UInt64} (h : v = FP.i2d a) : Core.DInt a.toInt v := h ▸ Core.i2d_int a
theorem oDK (i : Int) {x : UInt64} (h : FP.l2d (Int64.ofInt i) = x) (b : (Int64.ofInt i).toInt = i ∧ (Int64.ofInt i).toInt.natAbs ≤ 2 ^ 53) : Core.DInt i x := by
  have := Core.l2d_int b.2
  rw [b.1] at this; exact h ▸ this
theorem oCmp {i j : Int} {x y : UInt64} {o : CmpOp} {v : Int32} (hx : Core.DInt i x) (hy : Core.DInt j y) (h : v = cmpValue (FP.dcmp x y) o) : (v < 0 ↔ i < j) ∧ (v = 0 ↔ i = j) ∧ (0 < v ↔ j < i) := by
  have e : FP.dcmp x y = some (compare i j) := Core.dcmp_int hx hy
  rw [h, e, Core.compare_ite]
  by_cases h1 : i < j
  · have h2 : ¬ i = j := by omega
    have h3 : ¬ j < i := by omega
    simp only [h1, if_true, h2, h3, iff_false, iff_true]
    cases o <;> decide
  · by_cases h2 : i = j
    · have h3 : ¬ j < i := by omega
      simp only [h1, h2, if_false, if_true, iff_true, Int.lt_irrefl, iff_false]
      cases o <;> decide
    · have h3 : j < i := by omega
      simp only [h1, h2, h3, if_false, iff_false, iff_true]
      cases o <;> decide
theorem oLadd {x y z : Int64} (h : z = x + y) (b : -9223372036854775808 ≤ x.toInt + y.toInt ∧ x.toInt + y.toInt ≤ 9223372036854775807) : z.toInt = x.toInt + y.toInt := by
  rw [h, Int64.toInt_add]; exact Int.bmod_eq_of_le (by omega) (by omega)
theorem oIadd {x y z : Int32} (h : z = x + y) (b : -2147483648 ≤ x.toInt + y.toInt ∧ x.toInt + y.toInt ≤ 2147483647) : z.toInt = x.toInt + y.toInt := by
  rw [h, Int32.toInt_add]; exact Int.bmod_eq_of_le (by omega) (by omega)
theorem oIsub {x y z : Int32} (h : z = x - y) (b : -2147483648 ≤ x.toInt - y.toInt ∧ x.toInt - y.toInt ≤ 2147483647) : z.toInt = x.toInt - y.toInt := by
  rw [h, Int32.toInt_sub]; exact Int.bmod_eq_of_le (by omega) (by omega)
theorem oImul {x y z : Int32} (h : z = x * y) (b : -2147483648 ≤ x.toInt * y.toInt ∧ x.toInt * y.toInt ≤ 2147483647) : z.toInt = x.toInt * y.toInt := by
  rw [h, Int32.toInt_mul]; exact Int.bmod_eq_of_le (by omega) (by omega)
theorem oI2L {x : Int32} {z : Int64} (h : z = x.toInt64) : z.toInt = x.toInt := by rw [h]; exact Int32.toInt_toInt64 x
theorem oLcmp {x y : Int64} {v : Int32} (h : v = XT.cmpL x y) : (v < 0 ↔ x.toInt < y.toInt) ∧ (v = 0 ↔ x.toInt = y.toInt) ∧ (0 < v ↔ y.toInt < x.toInt) := by
  rw [h, XT.cmpL]
  simp only [Int64.lt_iff_toInt_lt, ← Int64.toInt_inj]
  by_cases h1 : y.toInt < x.toInt
  · have h2 : ¬ x.toInt = y.toInt := by omega
    have h3 : ¬ x.toInt < y.toInt := by omega
    simp only [h1, h2, h3, if_true, iff_true, iff_false]; decide
  · by_cases h2 : x.toInt = y.toInt
    · have h3 : ¬ x.toInt < y.toInt := by omega
      simp only [h1, h2, if_false, if_true, iff_true, Int.lt_irrefl, iff_false]; decide
    · have h3 : x.toInt < y.toInt := by omega
      simp only [h1, h2, h3, if_false, iff_false, iff_true]; decide
theorem oLt32 {x y : Int32} : x < y ↔ x.toInt < y.toInt := Int32.lt_iff_toInt_lt
theorem oEq32 {x y : Int32} : x = y ↔ x.toInt = y.toInt := Int32.toInt_inj.symm
theorem oMask (x : Int32) (k : Nat) (hk : k < 2 ^ 31) : ∃ n : Nat, n ≤ k ∧ (x &&& Int32.ofNat k) = Int32.ofNat n := by
  refine ⟨(x &&& Int32.ofNat k).toBitVec.toNat, ?_, ?_⟩
  · have e : (Int32.ofNat k).toBitVec.toNat = k := by
      show (BitVec.ofNat 32 k).toNat = k
      rw [BitVec.toNat_ofNat]; exact Nat.mod_eq_of_lt (by omega)
    rw [Int32.toBitVec_and, BitVec.toNat_and, e]; exact Nat.and_le_right
  · apply Int32.toBitVec_inj.mp
    show _ = BitVec.ofNat 32 _
    rw [BitVec.ofNat_toNat]; simp
theorem oMaskR {x v : Int32} (k : Nat) (hk : k < 2 ^ 31) (h : v = x &&& Int32.ofNat k) : 0 ≤ v.toInt ∧ v.toInt ≤ k := by
  obtain ⟨n, hn, e⟩ := oMask x k hk
  rw [h, e, Int32.toInt_ofNat_of_lt (by omega)]; omega
theorem oRem {u v y : Int32} (k : Int) (h : v = u % y) (hy : y.toInt = k) (hu : 0 ≤ u.toInt) : v.toInt = u.toInt % k := h ▸ (c_irem u y k hy).1 hu
def oZv (i : Int) (x : UInt64) : Prop := Core.val64 x ≠ .nan ∧ Core.zval Core.b64 (Core.val64 x) = i
theorem oZv.of {x : UInt64} (h : NoNaN64 x) : oZv (Core.zval Core.b64 (Core.val64 x)) x := ⟨val64_no.mp h, rfl⟩
theorem oZv.int {i : Int} {x : UInt64} (h : Core.DInt i x) : oZv (i * (Core.one64 : Int)) x := ⟨Core.DInt_ne_nan h, Core.DInt_zval h⟩
end Nums
section Dy
open Jvm.FP Jvm.FP.Core
def oQ (n : Int) (k : Nat) (x : UInt64) : Prop := DFin x ∧ zval b64 (val64 x) = n * ((2 ^ (1074 - k) : Nat) : Int)
theorem oQ.int {i : Int} {x : UInt64} (h : DInt i x) : oQ i 0 x := by
  refine ⟨?_, ?_⟩
  · have h' : Whole i (val64 x) := h
    cases e : val64 x with
    | nan => rw [e] at h'; exact h'.elim
    | inf s => rw [e] at h'; exact h'.elim
    | fin s c q => exact ⟨s, c, q, e⟩
  · rw [DInt_zval h]; rfl
theorem oQ.z {z : Int} {x : UInt64} (h : oQ z 1074 x) : zval b64 (val64 x) = z := by
  rw [h.2, Nat.sub_self, Nat.pow_zero]; omega
def oDead (s : Slot) : Prop := s = .unset ∨ ∃ z : Int32, s = .val (.int z)
theorem oStoreDead {l l' : Array Slot} {i : Nat} {v : Value} {s : Slot} (h : l[i]? = some s) (hd : oDead s) (hs : storeSelf l i v = some l') : storeLocals l i v = some l' := by
  unfold storeLocals
  rcases hd with rfl | ⟨z, rfl⟩ <;> rw [h] <;> exact hs
end Dy
section Sp
open Jvm.FP Jvm.FP.Core
theorem oIdxN {j : Int32} {n : Nat} (h : j.toInt = (n : Int)) : j = Int32.ofNat n := oEq32.mpr (by rw [Int32.toInt_ofNat_of_lt (by have := oB32 j; omega)]; exact h)
theorem oIdx {j : Int32} (h : 0 ≤ j.toInt) : j = Int32.ofNat j.toInt.toNat := oIdxN (by omega)
theorem oL2I {x : Int64} {v : Int32} (e : v = x.toInt32) (h : -2147483648 ≤ x.toInt ∧ x.toInt ≤ 2147483647) : v.toInt = x.toInt := by
  rw [e, Int64.toInt_toInt32]; exact Int.bmod_eq_of_le (by omega) (by omega)
theorem oNatI {j : Int32} {n : Nat} (e : j = Int32.ofNat n) (h : n < 2147483648) : j.toInt = (n : Int) := by rw [e]; exact Int32.toInt_ofNat_of_lt (by omega)
theorem oIncK {x v : Int32} {k : Int} (e : v = x + Int32.ofInt k) (hk : -1 ≤ k ∧ k ≤ 1) (h : -1000000 ≤ x.toInt ∧ x.toInt ≤ 1000000) : v.toInt = x.toInt + k := by
  have h1 : (Int32.ofInt k).toInt = k := Int32.toInt_ofInt_of_le (by omega) (by omega)
  have := oIadd e (by omega)
  omega
theorem oOf {p w : Int32} {a b x : Int64} (ea : a = p.toInt64 <<< ((32 : Int32).toInt64 &&& 63)) (eb : b = w.toInt64) (ex : x = a ||| b) (hp : 0 ≤ p.toInt) (hw : 0 ≤ w.toInt) : x.toInt = p.toInt * 4294967296 + w.toInt := by
  have h1 := c_lshl p.toInt64 32 32 (by decide)
  rw [show ((32 : Int32) &&& 0x3f).toInt64 = ((32 : Int32).toInt64 &&& 63) by decide, ← ea, Int32.toInt_toInt64] at h1
  have hb := oI2L eb
  have b1 := oB32 p; have b2 := oB32 w; have b3 := oB64 a; have b4 := oB64 x
  have ha : a.toInt = p.toInt * 4294967296 := by
    have e2 : ((2 ^ 32 : Nat) : Int) = 4294967296 := by decide
    rw [e2] at h1; omega
  have h2 := c_orL a b 32 (by decide) 4294967296 (by decide) (by omega) (by omega) (by omega)
  rw [← ex] at h2
  omega
theorem oPos {x a : Int64} {v : Int32} {p w : Int} (ea : a = XT.ushrL x 32) (ev : v = a.toInt32) (hx : x.toInt = p * 4294967296 + w) (hp : 0 ≤ p ∧ p < 2147483648) (hw : 0 ≤ w ∧ w < 2147483648) : v.toInt = p := by
  have h1 := c_lushr x 32 32 (by decide) (by decide)
  unfold XT.ushrL at ea
  rw [show (((32 : Int32) &&& 0x3f).toInt64.toUInt64) = ((32 : Int32).toInt64.toUInt64 &&& Int64.toUInt64 63) by decide, ← ea] at h1
  have e2 : ((2 ^ 32 : Nat) : Int) = 4294967296 := by decide
  rw [e2] at h1
  have ha : a.toInt = p := by rw [h1, hx]; omega
  rw [oL2I ev (by omega), ha]
theorem oWord {x : Int64} {v : Int32} {p w : Int} (ev : v = x.toInt32) (hx : x.toInt = p * 4294967296 + w) (hw : 0 ≤ w ∧ w < 2147483648) : v.toInt = w := by
  have h1 := c_l2i x
  rw [← ev] at h1
  have b := oB32 v
  omega
theorem oHalf {x v : Int32} (e : v = XT.ushr x 1) (h : 0 ≤ x.toInt) : v.toInt = x.toInt / 2 := by
  have h1 := c_iushr x 1 1 (by decide) (by decide)
  unfold XT.ushr at e
  rw [← e] at h1
  have e2 : ((2 ^ 1 : Nat) : Int) = 2 := by decide
  rw [e2] at h1
  have b := oB32 x
  omega
def oDeadJ (s t : Slot) : Prop := (s = .unset ∧ t = .unset) ∨ ∃ x, s = .val (.long x) ∧ t = .second
def oEnt (xs : List Int64) (n : Nat) (W : Int) : Prop := n ≤ xs.length ∧ ∀ (i : Nat) (x : Int64), i < n → xs[i]? = some x → ∃ p w : Int, x.toInt = p * 4294967296 + w ∧ 1 ≤ p ∧ p < 2147483648 ∧ 0 ≤ w ∧ w ≤ W
def oSrt (xs : List Int64) (n : Nat) : Prop := ∀ (i j : Nat) (x y : Int64), i < j → j < n → xs[i]? = some x → xs[j]? = some y → x.toInt < y.toInt
def oCut (xs : List Int64) (n r : Nat) (key : Int) : Prop := r ≤ n ∧ (∀ (i : Nat) (x : Int64), i < r → xs[i]? = some x → x.toInt < key) ∧ ∀ (i : Nat) (x : Int64), r ≤ i → i < n → xs[i]? = some x → key ≤ x.toInt
theorem oHas {xs : List Int64} {k : Nat} (h : k < xs.length) : ∃ x, xs[k]? = some x := ⟨_, List.getElem?_eq_getElem h⟩
theorem oIneg {x v : Int32} (e : v = -x) (h : -2147483648 < x.toInt) : v.toInt = -x.toInt := by
  have h1 := c_ineg x
  rw [← e] at h1
  have b1 := oB32 x; have b2 := oB32 v
  omega
theorem oBsLo {xs : List Int64} {n k : Nat} {y : Int64} {key : Int} (hs : oSrt xs n) (hk : xs[k]? = some y) (hn : k < n) (hy : y.toInt < key) (i : Nat) (x : Int64) (hi : i ≤ k) (q : xs[i]? = some x) : x.toInt < key := by
  rcases Nat.lt_or_eq_of_le hi with h | h
  · have := hs i k x y h hn q hk; omega
  · subst h; cases q.symm.trans hk; exact hy
theorem oBsHi {xs : List Int64} {n k : Nat} {y : Int64} {key : Int} (hs : oSrt xs n) (hk : xs[k]? = some y) (hy : key < y.toInt) (i : Nat) (x : Int64) (hi : k ≤ i) (hn : i < n) (q : xs[i]? = some x) : key < x.toInt := by
  rcases Nat.lt_or_eq_of_le hi with h | h
  · have := hs k i y x h hn hk q; omega
  · subst h; cases q.symm.trans hk; exact hy
theorem oBsEq {xs : List Int64} {n k : Nat} {y : Int64} {key : Int} (hs : oSrt xs n) (hk : xs[k]? = some y) (hn : k < n) (hy : y.toInt = key) : oCut xs n k key := by
  refine ⟨Nat.le_of_lt hn, fun i x hi q => ?_, fun i x hi hin q => ?_⟩
  · have := hs i k x y hi hn q hk; omega
  · rcases Nat.lt_or_eq_of_le hi with h | h
    · have := hs k i y x h hin hk q; omega
    · subst h; cases q.symm.trans hk; omega
def oKp (rds : List Int64) (n : Nat) (k : Int32) (w : Int) : Prop := k.toInt = 0 ∨ ∃ (j : Nat) (x : Int64) (p : Int), j < n ∧ rds[j]? = some x ∧ x.toInt = p * 4294967296 + w
def oRS (rds : List Int64) (n : Nat) (rc ea k0 k1 k2 : Int32) : Prop := rc.toInt = (n : Int) ∧ 0 ≤ ea.toInt ∧ ea.toInt ≤ (n : Int) ∧ oEnt rds n 1 ∧ oKp rds n k0 0 ∧ oKp rds n k1 1 ∧ k2.toInt = 0
def oKx (rds : List Int64) (i : Int) (x0 k0 : Int32) (w : Int) : Prop := x0.toInt = 0 ∨ (x0 = k0 ∧ ∀ (j : Nat) (x : Int64), (j : Int) < i → rds[j]? = some x → ∀ p : Int, x.toInt ≠ p * 4294967296 + w)
theorem oKx.zero {rds : List Int64} {n : Nat} {i : Int} {x0 k0 : Int32} {w : Int} (g : oKx rds i x0 k0 w) (hk : oKp rds n k0 w) (hi : (n : Int) ≤ i) : x0 = 0 := by
  rcases g with h | ⟨rfl, h2⟩
  · exact oEq32.mpr (by rw [h]; decide)
  · rcases hk with h | ⟨j, x, p, a1, a2, a3⟩
    · exact oEq32.mpr (by rw [h]; decide)
    · exact absurd a3 (h2 j x (by omega) a2 p)
theorem oKx.step {rds : List Int64} {k : Nat} {i i' : Int} {x0 k0 : Int32} {y : Int64} {w : Int} (g : oKx rds i x0 k0 w) (hy : rds[k]? = some y) (hk : (k : Int) = i) (hi : i' = i + 1) (hw : ∀ p : Int, y.toInt ≠ p * 4294967296 + w) : oKx rds i' x0 k0 w := by
  refine g.imp id fun h => ⟨h.1, fun j x hj q => ?_⟩
  by_cases e : (j : Int) < i
  · exact h.2 j x e q
  · have : j = k := by omega
    subst this; cases q.symm.trans hy; exact hw
theorem oEnt.set {xs : List Int64} {n : Nat} {W : Int} {x : Int64} {p w : Int} (h : oEnt xs n W) (hn : n < xs.length) (hx : x.toInt = p * 4294967296 + w) (hp : 1 ≤ p ∧ p < 2147483648) (hw : 0 ≤ w ∧ w ≤ W) : oEnt (xs.set n x) (n + 1) W := by
  refine ⟨by rw [List.length_set]; omega, fun i y hi q => ?_⟩
  rw [List.getElem?_set] at q
  split at q
  · rename_i e; subst e; cases q
    exact ⟨p, w, hx, hp.1, hp.2, hw.1, hw.2⟩
  · rename_i e
    exact h.2 i y (by omega) q
theorem oKp.set {xs : List Int64} {n : Nat} {k : Int32} {w : Int} {x : Int64} (h : oKp xs n k w) : oKp (xs.set n x) (n + 1) k w := by
  refine h.imp id fun ⟨j, y, p, h1, h2, h3⟩ => ⟨j, y, p, by omega, ?_, h3⟩
  rw [List.getElem?_set, if_neg (by omega)]; exact h2
theorem oSetAt {xs : List Int64} {n : Nat} {x : Int64} (hn : n < xs.length) : (xs.set n x)[n]? = some x := by rw [List.getElem?_set, if_pos rfl, if_pos hn]
theorem oKp.new {xs : List Int64} {n : Nat} {k : Int32} {w p : Int} {x : Int64} (hn : n < xs.length) (hx : x.toInt = p * 4294967296 + w) : oKp (xs.set n x) (n + 1) k w := Or.inr ⟨n, x, p, by omega, oSetAt hn, hx⟩
theorem oKp.z {xs : List Int64} {n : Nat} {w : Int} : oKp xs n 0 w := Or.inl (by decide)
theorem oEnt.z {xs : List Int64} {W : Int} : oEnt xs 0 W := ⟨Nat.zero_le _, fun _ _ h => absurd h (Nat.not_lt_zero _)⟩
theorem oUpTo {xs : List Int64} {k : Nat} {i i' K : Int} {y : Int64} (h : ∀ (j : Nat) (x : Int64), (j : Int) < i → xs[j]? = some x → x.toInt < K) (g : xs[k]? = some y) (hk : (k : Int) = i) (hi : i' = i + 1) (hy : y.toInt < K) (j : Nat) (x : Int64) (hj : (j : Int) < i') (q : xs[j]? = some x) : x.toInt < K := by
  by_cases e : (j : Int) < i
  · exact h j x e q
  · have : j = k := by omega
    subst this; cases q.symm.trans g; exact hy
theorem oUpTo3 {xs : List Int64} {k : Nat} {i i' K ch : Int} {y : Int64} (h : ∀ (j : Nat) (x : Int64) (p : Int), (j : Int) < i → xs[j]? = some x → x.toInt = p * 4294967296 + ch → p < K) (g : xs[k]? = some y) (hk : (k : Int) = i) (hi : i' = i + 1) (hy : ∀ p : Int, y.toInt = p * 4294967296 + ch → p < K) (j : Nat) (x : Int64) (p : Int) (hj : (j : Int) < i') (q : xs[j]? = some x) (e : x.toInt = p * 4294967296 + ch) : p < K := by
  by_cases l : (j : Int) < i
  · exact h j x p l q e
  · have : j = k := by omega
    subst this; cases q.symm.trans g; exact hy p e
theorem oCutLe {xs : List Int64} {n r t : Nat} {key : Int} (hc : oCut xs n r key) (hn : n ≤ xs.length) (ht : t ≤ n) (h : ∀ (i : Nat) (x : Int64), i < t → xs[i]? = some x → x.toInt < key) : t ≤ r := Nat.not_lt.mp fun q => by
  obtain ⟨x, hx⟩ := oHas (xs := xs) (k := r) (by omega)
  have h1 := hc.2.2 r x (Nat.le_refl _) (by omega) hx
  have h2 := h r x q hx
  omega
theorem oAtLeast {xs : List Int64} {n k i : Nat} {x y : Int64} (hs : oSrt xs n) (g : xs[k]? = some y) (hk : k ≤ i) (hi : i < n) (q : xs[i]? = some x) : y.toInt ≤ x.toInt := by
  rcases Nat.lt_or_eq_of_le hk with h | h
  · have := hs k i y x h hi g q; omega
  · subst h; cases q.symm.trans g; omega
theorem oRS.z {xs : List Int64} : oRS xs 0 0 0 0 0 0 := ⟨by decide, by decide, by decide, oEnt.z, oKp.z, oKp.z, by decide⟩
end Sp
section Sp2
open Jvm.FP Jvm.FP.Core
theorem oD2I {b : UInt64} {v : Int32} {k : Int} (e : v = FP.d2i b) (h : DInt k b) (hk : -2147483648 ≤ k ∧ k ≤ 2147483647) : v.toInt = k := by
  have ek : (Int32.ofInt k).toInt = k := Int32.toInt_ofInt_of_le (by omega) (by omega)
  have h' : DInt (Int32.ofInt k).toInt b := by rw [ek]; exact h
  rw [e, show FP.d2i b = Int32.ofInt k from d2i_int h', ek]
def oExp (b : UInt64) : Int32 := (((b.toInt64 &&& 9218868437227405312) >>> ((52 : Int32).toInt64 &&& 63)) - 1023).toInt32
def oMskB (b : UInt64) : Int64 := ((4503599627370495 : Int64) >>> ((oExp b).toInt64 &&& 63)) &&& b.toInt64
def oWh (b : UInt64) : Prop := ¬ oExp b < 0 ∧ oExp b < 52 ∧ oMskB b = 0 ∧ b &&& 0x7fffffffffffffff ≤ 0x7ff0000000000000
instance (b : UInt64) : Decidable (oWh b) := by unfold oWh; infer_instance
theorem oWhF : ∀ i : Fin 66, 1 ≤ i.val → oWh (FP.i2d (Int32.ofNat i.val)) := by decide +kernel
theorem oWhI {a : Int32} {b : UInt64} (e : b = FP.i2d a) (h : 1 ≤ a.toInt ∧ a.toInt ≤ 65) : oWh b := by
  have h1 := oWhF ⟨a.toInt.toNat, by omega⟩ (show 1 ≤ a.toInt.toNat by omega)
  have h2 : Int32.ofNat a.toInt.toNat = a := oEq32.mpr (by rw [Int32.toInt_ofNat_of_lt (by omega)]; omega)
  rw [e]
  have h3 : oWh (FP.i2d (Int32.ofNat a.toInt.toNat)) := h1
  rw [h2] at h3; exact h3
end Sp2
section Sp3
def oCh : List Int64 → Prop
  | [] => True
  | [_] => True
  | a :: b :: l => a.toInt < b.toInt ∧ oCh (b :: l)
theorem oCh.tail {a : Int64} {l : List Int64} (h : oCh (a :: l)) : oCh l := by
  cases l with
  | nil => trivial
  | cons b l => exact h.2
theorem oCh.lt {a : Int64} : ∀ {l : List Int64} (_ : oCh (a :: l)) (j : Nat) (y : Int64), l[j]? = some y → a.toInt < y.toInt
  | [], _, _, _, q => by simp at q
  | b :: l, h, 0, y, q => by simp at q; subst q; exact h.1
  | b :: l, h, j + 1, y, q => Int.lt_trans h.1 (oCh.lt (l := l) h.2 j y (by simpa using q))
theorem oCh.srt : ∀ {es : List Int64} (_ : oCh es) (i j : Nat) (x y : Int64), i < j → es[i]? = some x → es[j]? = some y → x.toInt < y.toInt
  | [], _, _, _, _, _, _, hi, _ => by simp at hi
  | a :: l, h, 0, 0, _, _, hij, _, _ => absurd hij (Nat.lt_irrefl 0)
  | a :: l, h, 0, j + 1, x, y, _, hi, hj => by simp at hi; subst hi; exact h.lt j y (by simpa using hj)
  | a :: l, h, i + 1, 0, _, _, hij, _, _ => absurd hij (Nat.not_lt_zero _)
  | a :: l, h, i + 1, j + 1, x, y, hij, hi, hj => oCh.srt (es := l) h.tail i j x y (by omega) (by simpa using hi) (by simpa using hj)
theorem oApp {es rest : List Int64} {i : Nat} {x : Int64} (hi : i < es.length) (q : (es ++ rest)[i]? = some x) : es[i]? = some x := by
  rw [List.getElem?_append_left hi] at q; exact q
theorem oSrtOf {es rest : List Int64} {n : Nat} (h : oCh es) (hn : es.length = n) : oSrt (es ++ rest) n := fun i j x y hij hj qi qj => by
  subst hn
  exact h.srt i j x y hij (oApp (by omega) qi) (oApp hj qj)
theorem oEntOf {es rest : List Int64} {n : Nat} {W : Int} (hn : es.length = n) (h : ∀ x ∈ es, ∃ p w : Int, x.toInt = p * 4294967296 + w ∧ 1 ≤ p ∧ p < 2147483648 ∧ 0 ≤ w ∧ w ≤ W) : oEnt (es ++ rest) n W := by
  subst hn
  exact ⟨by simp, fun i x hi q => h x (List.mem_of_getElem? (oApp hi q))⟩
end Sp3
section Sp4
theorem oPW {v p w W : Int} (e : v = p * 4294967296 + w) (hp : 1 ≤ p ∧ p ≤ 100000) (hw : 0 ≤ w ∧ w ≤ W) : ∃ p w : Int, v = p * 4294967296 + w ∧ 1 ≤ p ∧ p < 2147483648 ∧ 0 ≤ w ∧ w ≤ W := ⟨p, w, e, hp.1, by omega, hw.1, hw.2⟩
theorem oLen0 {l : List Value} {v : Value} (h : 0 < l.length) : (l.set 0 v)[0]? = some v := by rw [List.getElem?_set, if_pos rfl, if_pos h]
theorem oLen0' {l : List Value} {v u : Value} (h : 0 < l.length) : ((l.set 0 v).set 1 u)[0]? = some v := by rw [List.getElem?_set, if_neg (by decide)]; exact oLen0 h
theorem oLen1 {l : List Value} {v u : Value} (h : 1 < l.length) : ((l.set 0 v).set 1 u)[1]? = some u := by rw [List.getElem?_set, if_pos rfl, if_pos (by rw [List.length_set]; exact h)]
end Sp4
section Fl
open Jvm.Stand
abbrev oHS (l : Launch) (e : Env) (s : State) (m : MethodId) (c : Code) (below : List Frame) (T : State) : Prop := l.admits e ∧ At T m c below ∧ s.WarmedH T.vm
variable {p : Program} {l : Launch} {e : Env} {s : State} {m : MethodId} {c : Code} {args : Array Value} {below : List Frame} {T : State}
theorem oHS.adm (X : oHS l e s m c below T) : l.admits e := X.1
theorem oHS.here (X : oHS l e s m c below T) : At T m c below := X.2.1
theorem oHS.warm (X : oHS l e s m c below T) : s.WarmedH T.vm := X.2.2
theorem oHS.noted (X : oHS l e s m c below T) {vm' : Vm} (hW : s.WarmedH vm') : oHS l e s m c below (T.setVm vm') := ⟨X.adm, X.here.setVm (X.warm.alike.symm.trans hW.alike), hW⟩
theorem oHS.invS (X : oHS l e s m c below T) (hexec : p.tables.exec = Jvm.exec) {own : String} {index : Nat} {y : MethodName} (hown : s.vm.findClass own = some m.cls) (hlink : (Jvm.Cond.methodLink own index y).before args s = true)
    {m' : MethodId} {meth' : Method} {k' : Class} (hn : s.methodNamed? y = some m') (hm' : s.vm.method? m' = some meth') (hstatic : meth'.isStatic = true) (hk' : s.vm.classes[m'.cls]? = some k') (hinit : k'.init = .initialized)
    (hy : y.cls ≠ "java/lang/invoke/MethodHandle" ∧ y.cls ≠ "java/lang/invoke/VarHandle") {g : JFrame} (hg : g.method = m) {argsL rest : List Value} (hlen : argsL.length = meth'.sig.parameters.length) (hstack : g.stack = argsL.reverse ++ rest) (hdg : decode c.code g.pc = .ok (.invokestatic index, 3)) :
    ∃ vm', oHS l e s m c below (T.setVm vm') ∧ ∀ target, (∀ acts, Steps p.tables e below (doInvoke e ((T.setVm vm').setTop { g with stack := rest }) acts m' argsL.toArray).1 target) → Steps p.tables e below (T.setTop g) target := by
  have hpl : e.platform.magicAccessors = ({} : Platform).magicAccessors := by rw [X.adm.platform]
  have hpv : e.platform.polymorphicOnlyByInvokevirtual = true := by rw [X.adm.platform]
  obtain ⟨ci, hl, hright⟩ := Cond.methodLink_spec hown hn hlink e.platform hpl
  obtain ⟨kx, hkx, hnx⟩ := className_of_methodNamed hn
  cases hk'.symm.trans hkx
  have hE : s.MethodEntry e T.vm m.cls index m' ci := State.methodEntry X.warm hl hright fun k hk => by
    cases hk'.symm.trans hk
    rw [hnx]; exact hy
  obtain ⟨dk, cfile, nt, mname, mdesc, via, ck, _, hd, hcf, hcp, hnt, -, -, hck, -, hnopoly, -⟩ := hl.here
  cases hk'.symm.trans hck
  have alike := hE.warmed.alike
  obtain ⟨dk₂, hdk₂, hed₂⟩ := alike.2.2 _ _ hd
  obtain ⟨k₂, hk₂, he₂⟩ := alike.2.2 _ _ hk'
  have hnone : (k'.methods.any fun y => y.name == mname && !y.isStatic && signaturePolymorphic k' y) = false := by simp [hnopoly]
  have hnone₂ : (k₂.methods.any fun y => y.name == mname && !y.isStatic && signaturePolymorphic k₂ y) = false := by rw [he₂]; exact hnone
  refine ⟨T.vm.called m.cls ci index m', X.noted hE.warmed, fun target hrest => ?_⟩
  subst hg
  jvm_step X.here [hexec, hdg, invokestatic.wp_cold (e := e) (s := T) (s₀ := s) (f := g) X.here.top hpv X.warm hE hd hcf hcp hnt hk' hnone,
    invokestatic.wp_ready (e := e) (s := T.setVm (T.vm.called g.method.cls ci index m')) (k := k₂) (meth := meth') (m := m') (args := argsL) (rest := rest) (f := g)
      X.here.top ⟨ci, mname, mdesc, via, m'.cls, k₂, memberRef_ask_via (e := e) hdk₂ (by rw [hed₂]; exact hcf) hcp hnt, hE.classReady, hk₂, hnone₂⟩ hE.ready hk₂
      (by show (T.vm.called g.method.cls ci index m').method? m' = some meth'; rw [alike.method?]; exact hm') (by rw [he₂]; exact hnopoly meth') hstatic (by rw [he₂]; exact hinit) hlen hstack]
  exact fun acts => hrest _
theorem oHS.getS (X : oHS l e s m c below T) (hexec : p.tables.exec = Jvm.exec) {own ref name desc : String} {index : Nat} (hown : s.vm.findClass own = some m.cls) (hlink : (Jvm.Cond.fieldLink own index ref name desc).before args s = true)
    {v : Value} (F : Sta s T.heap ref name desc v) {g : JFrame} (hg : g.method = m) (hdg : decode c.code g.pc = .ok (.getstatic index, 3)) :
    ∃ vm', oHS l e s m c below (T.setVm vm') ∧ ∀ target, Steps p.tables e below ((T.setVm vm').setTop { g with pc := g.pc + 3, stack := v :: g.stack }) target → Steps p.tables e below (T.setTop g) target := by
  have hpl : e.platform.magicAccessors = ({} : Platform).magicAccessors := by rw [X.adm.platform]
  obtain ⟨cf, i, k, f, st, cell, hi, hst, hinit, hstatics, hcell, hsta, hslot⟩ := F
  obtain ⟨ci', cfl, k', i', f', hi', hlinks, hright⟩ := Cond.fieldLink_spec hown hlink e.platform hpl
  cases hi.symm.trans hi'
  obtain ⟨hk, hf⟩ := State.fieldFound?_spec hi
  obtain ⟨vm', hgives, hW', hready, hfi⟩ := State.fieldEntry (e := e) X.warm hlinks hright hk hf
  obtain ⟨kc, hkc, hekc⟩ := hW'.alike.2.2 _ _ hk
  refine ⟨vm', X.noted hW', fun target hrest => ?_⟩
  subst hg
  have hknown : cell.vm ≠ .unknown := fun q => by rw [q] at hsta; cases hsta
  have hsz : vm'.classes.size ≤ T.vm.classes.size := Nat.le_of_eq (X.warm.alike.symm.trans hW'.alike).2.1
  jvm_step X.here [hexec, hdg, getstatic.wp_cold (e := e) (s := T) (f := g) X.here.top hgives hready hfi,
    getstatic.wp_ready (e := e) (s := T.setVm vm') (f := g) X.here.top hready hst hkc (by rw [hekc]; exact hinit) (by rw [hekc]; exact hstatics) (show (T.setVm vm').heap[st]? = some cell from hcell) hknown hslot]
  exact hrest
theorem oHS.ldcL (X : oHS l e s m c below T) (hexec : p.tables.exec = Jvm.exec) {own : String} {index : Nat} {v : Int64} (hown : s.vm.findClass own = some m.cls) (hconst : (Jvm.Cond.constantLong own index v).before args s = true) {g : JFrame} (hg : g.method = m) (hdg : decode c.code g.pc = .ok (.ldc2_w index, 3)) :
    ∀ target, Steps p.tables e below (T.setTop { g with pc := g.pc + 3, stack := .long v :: g.stack }) target → Steps p.tables e below (T.setTop g) target := by
  obtain ⟨k, cf, bytes, hk, hcf, hcp, hb⟩ := Cond.constantLong_spec hown hconst
  obtain ⟨k', hk', he⟩ := X.warm.alike.2.2 _ _ hk
  intro target hrest
  subst hg
  jvm_step X.here [hexec, hdg, ldc2_w.wp_long (s := T) (f := g) X.here.top hk' (by rw [he]; exact hcf) hcp, hb]
  exact hrest
theorem oHS.ldcD (X : oHS l e s m c below T) (hexec : p.tables.exec = Jvm.exec) {own : String} {index : Nat} {v : UInt64} (hown : s.vm.findClass own = some m.cls) (hconst : (Jvm.Cond.constantDouble own index v).before args s = true) {g : JFrame} (hg : g.method = m) (hdg : decode c.code g.pc = .ok (.ldc2_w index, 3)) :
    ∀ target, Steps p.tables e below (T.setTop { g with pc := g.pc + 3, stack := .double v :: g.stack }) target → Steps p.tables e below (T.setTop g) target := by
  obtain ⟨k, cf, hk, hcf, hcp⟩ := Cond.constantDouble_spec hown hconst
  obtain ⟨k', hk', he⟩ := X.warm.alike.2.2 _ _ hk
  intro target hrest
  subst hg
  jvm_step X.here [hexec, hdg, ldc2_w.wp_double (s := T) (f := g) X.here.top hk' (by rw [he]; exact hcf) hcp]
  exact hrest
def oSp (e : Env) (T : State) (a b : Nat) : Prop := (stackUse T.frames.tail).1 + a ≤ (e.platform.stackLimits T.me).1 ∧ (stackUse T.frames.tail).2 + b ≤ (e.platform.stackLimits T.me).2
theorem oSp.notFull {g : JFrame} {a b vars : Nat} (h : oSp e T a b) (ht : T.topJava?.isSome) (ha : 2 ≤ a) (hb : g.locals.size + 11 + 2 * g.monitorRoom + operandWords g.stack + vars + 11 ≤ b) :
    e.platform.stackFull (((T.setTop g).threads[(T.setTop g).cur]?).getD { frames := [] }) (T.setTop g).frames vars = false := by
  have hF : (T.setTop g).frames = .java g :: T.frames.tail := State.frames_setTop' _ ht
  have hl := State.stackLimits_setTop e.platform ht g
  have u := stackUse_java g T.frames.tail
  have uc := stackUse_count T.frames.tail
  rw [hF]
  obtain ⟨h1, h2⟩ := h
  refine Platform.stackFull_eq_false (t := (T.setTop g).me) ?_ ?_
  · rw [hl, List.length_cons]; omega
  · rw [hl, u]; show (stackUse T.frames.tail).2 + _ + _ + _ ≤ _; omega
def oPur (p : Program) (l : Launch) (e : Env) (s : State) (below : List Frame) (y : MethodName) (by1 : ByteArray) (rt1 : Option FieldType) (Ls : Array Slot) (v : Value) (h : Heap) (a b : Nat) : Prop :=
  ∀ (m' : MethodId) (meth' : Method) (c' : Code) (U : State), oHS l e s m' c' below U → c'.code = by1 → s.vm.method? m' = some meth' → meth'.sig.returnType = rt1 → s.vm.findClass y.cls = some m'.cls → U.heap = h → oSp e U a b →
    ∃ vm', oHS l e s m' c' below (U.setVm vm') ∧ ∀ fs : List Frame, (∀ (f : JFrame) (acts : List Action), f.method = m' → f.locked = none → f.entered = [] → (doReturn e ((U.setVm vm').setTop f) acts (some v)).1 = (U.setVm vm').setFrames fs) → Steps p.tables e below (U.setTop (mkF m' 0 Ls [])) ((U.setVm vm').setFrames fs)
theorem oHS.call (X : oHS l e s m c below T) (hexec : p.tables.exec = Jvm.exec) {own : String} {index : Nat} {y : MethodName} {by1 : ByteArray} {ml1 : Nat} {rt1 : Option FieldType} (hown : s.vm.findClass own = some m.cls) (hlink : (Jvm.Cond.methodLink own index y).before args s = true) (hstat : (Jvm.Cond.static y).before args s = true) (hinit : (Jvm.Cond.initialized y.cls).before args s = true) (hcode : (Jvm.Cond.code y by1 ml1 rt1).before args s = true)
    (hy : y.cls ≠ "java/lang/invoke/MethodHandle" ∧ y.cls ≠ "java/lang/invoke/VarHandle") (hpl : plainFor y = true) {pc : Nat} {L : Array Slot} {argsL rest : List Value} (hlen : ∀ sig, parseMethodDescriptor y.desc = some sig → argsL.length = sig.parameters.length) (hdg : decode c.code pc = .ok (.invokestatic index, 3))
    {a b : Nat} (Sp : oSp e T (a + 1) b) (ha : 1 ≤ a) {b' : Nat} (hb : L.size + 11 + operandWords rest + b' ≤ b) (hb' : ml1 + 11 ≤ b') {Ls : Array Slot} (hef : ∀ m, entryFrame m argsL.toArray ml1 = mkF m 0 Ls []) {v : Value} (B : oPur p l e s below y by1 rt1 Ls v T.heap a b') :
    ∃ vm', oHS l e s m c below (T.setVm vm') ∧ ∀ target, Steps p.tables e below ((T.setVm vm').setTop (mkF m (pc + 3) L (v :: rest))) target → Steps p.tables e below (T.setTop (mkF m pc L (argsL.reverse ++ rest))) target := by
  obtain ⟨mk, hnamed⟩ := Cond.code_named hcode
  obtain ⟨meth, c', h1, h2, h3, h4, h5, h6, -, hsig⟩ := Cond.code_spec hnamed hcode
  have hst := Cond.static_spec hnamed h1 hstat
  obtain ⟨k', hk', hname⟩ := className_of_methodNamed hnamed
  have hin : k'.init = .initialized := Cond.initialized_spec (findClass_of_methodNamed hnamed) hk' hinit
  obtain ⟨vm1, X1, st⟩ := X.invS hexec hown hlink hnamed h1 hst hk' hin hy (g := mkF m pc L (argsL.reverse ++ rest)) rfl (argsL := argsL) (rest := rest) (hlen _ hsig) rfl hdg
  have m1 : (T.setVm vm1).vm.method? mk = some meth := by rw [X1.warm.alike.method?]; exact h1
  have Sp1 : oSp e (T.setVm vm1) (a + 1) b := Sp
  have nf := Sp1.notFull (g := mkF m pc L rest) (vars := c'.maxLocals) X1.here.top (by omega) (by rw [h4]; show L.size + 11 + 2 * 0 + operandWords rest + ml1 + 11 ≤ b; omega)
  have en : ∀ acts, _ := fun acts => doInvoke_enter (e := e) (s := T.setVm vm1) (g := mkF m pc L rest) X1.here.top (args := argsL.toArray) acts m1 h2 h6 nf
  have hpm0 : (s.setVm vm1).plainMethod mk := State.plainMethod.of_named hpl ((State.methodNamed?_setVm (show s.vm.Alike vm1 from X1.warm.alike) y).trans hnamed) m1
  have hpm : (T.setVm vm1).plainMethod mk := hpm0
  have hU := X1.here.enter (g := mkF m pc L rest) argsL.toArray m1 h2 hpm
  have hUf := frames_entered (s := T.setVm vm1) (g := mkF m pc L rest) X1.here.top (.java (entryFrame mk argsL.toArray c'.maxLocals))
  rw [h4, hef] at hU hUf
  have cr := State.cur_lt_of_top X1.here.top
  obtain ⟨g0, hg0⟩ := Option.isSome_iff_exists.mp X1.here.top
  obtain ⟨r, hr⟩ := State.topJava?_eq_some.mp hg0
  have tl : (T.setVm vm1).frames.tail = r := by rw [hr]; rfl
  have eU : ((T.setVm vm1).setTop (mkF m pc L rest)).pushFrame (.java (mkF mk 0 Ls [])) = (T.setVm vm1).setFrames (.java (mkF mk 0 Ls []) :: .java (mkF m pc L rest) :: r) := by
    rw [State.pushFrame, State.frames_setTop _ hr, State.setTop_of_frames _ hr, State.setFrames_setFrames]
  rw [tl] at hUf
  rw [eU] at hU hUf
  have SpU : oSp e ((T.setVm vm1).setFrames (.java (mkF mk 0 Ls []) :: .java (mkF m pc L rest) :: r)) a b' := by
    unfold oSp
    rw [hUf, State.stackLimits_setFrames, List.tail_cons, stackUse_java]
    have q := Sp1
    unfold oSp at q
    rw [tl] at q
    refine ⟨?_, ?_⟩
    · have := q.1; show (stackUse r).1 + 1 + a ≤ _; omega
    · have := q.2; show (stackUse r).2 + (L.size + 11 + 2 * 0 + operandWords rest) + b' ≤ _; omega
  obtain ⟨vm2, X2, run⟩ := B mk meth c' _ ⟨X.adm, hU, X1.warm⟩ h3 h1 h5 (findClass_of_methodNamed hnamed) rfl SpU
  refine ⟨vm2, X.noted X2.warm, fun target hrest => st target fun acts => ?_⟩
  have e1 := en acts
  rw [h4, hef, eU] at e1
  show Steps p.tables e below (doInvoke e ((T.setVm vm1).setTop (mkF m pc L rest)) acts mk argsL.toArray).1 target
  rw [e1]
  have hr2 : (T.setVm vm2).frames = .java g0 :: r := hr
  have e2 : (((T.setVm vm1).setFrames (.java (mkF mk 0 Ls []) :: .java (mkF m pc L rest) :: r)).setVm vm2).setFrames (.java (mkF m (pc + 3) L (v :: rest)) :: r) = (T.setVm vm2).setTop (mkF m (pc + 3) L (v :: rest)) := by
    rw [State.setTop_of_frames _ hr2]
    show ((T.setVm vm2).setFrames _).setFrames _ = _
    rw [State.setFrames_setFrames]
  rw [← e2] at hrest
  refine (run _ fun f acts' hf1 hf2 hf3 => ?_).trans hrest
  have hcg : (((T.setVm vm1).setFrames (.java (mkF mk 0 Ls []) :: .java (mkF m pc L rest) :: r)).setVm vm2).code? m = some c := by
    have q := (X.noted X2.warm).here.code
    rw [State.code?_eq] at q ⊢; exact q
  have dl := doReturn_leave (e := e) (u := ((T.setVm vm1).setFrames (.java (mkF mk 0 Ls []) :: .java (mkF m pc L rest) :: r)).setVm vm2) (f := f) (f₀ := mkF mk 0 Ls []) (g := mkF m pc L rest) (r := r) (meth := meth) (cg := c) (v := some v) acts' hUf (by rw [hf1, X2.warm.alike.method?]; exact h1) h6 hf2 hf3 hcg hdg
  have hW : (((T.setVm vm1).setFrames (.java (mkF mk 0 Ls []) :: .java (mkF m pc L rest) :: r)).setVm vm2).frames = .java (mkF mk 0 Ls []) :: .java (mkF m pc L rest) :: r := hUf
  rw [dl]
  generalize ((T.setVm vm1).setFrames (.java (mkF mk 0 Ls []) :: .java (mkF m pc L rest) :: r)).setVm vm2 = W at hW
  rw [State.setTop_of_frames _ (State.frames_setFrames (s := W) (.java (mkF m pc L rest) :: r) (State.cur_lt_of_frames hW)), State.setFrames_setFrames]
  rfl
theorem oHS.raw (X : oHS l e s m c below T) (hexec : p.tables.exec = Jvm.exec) {own : String} {index : Nat} (hown : s.vm.findClass own = some m.cls) (hlink : (Jvm.Cond.methodLink own index doubleToRawLongBitsName).before args s = true) (hnat : (Jvm.Cond.native doubleToRawLongBitsName).before args s = true) (hstat : (Jvm.Cond.static doubleToRawLongBitsName).before args s = true) (hinit : (Jvm.Cond.initialized "java/lang/Double").before args s = true)
    {pc : Nat} {L : Array Slot} {rest : List Value} {x : UInt64} (hdg : decode c.code pc = .ok (.invokestatic index, 3)) {a b : Nat} (Sp : oSp e T a b) (ha : 2 ≤ a) (hb : L.size + 11 + operandWords rest + 40 ≤ b) :
    ∃ vm', oHS l e s m c below (T.setVm vm') ∧ ∀ target, Steps p.tables e below ((T.setVm vm').setTop (mkF m (pc + 3) L (.long x.toInt64 :: rest))) target → Steps p.tables e below (T.setTop (mkF m pc L (.double x :: rest))) target := by
  obtain ⟨r, kS, methS, hnS, hmS, hkS, N⟩ := NativeOf.of_static hnat hstat (ps := [.double]) (ret := some .long) (by decide +kernel)
  have hinitS : kS.init = .initialized := Cond.initialized_spec (findClass_of_methodNamed hnS) hkS hinit
  obtain ⟨vm', X', step⟩ := X.invS hexec hown hlink hnS hmS N.static hkS hinitS (by decide) (g := mkF m pc L (.double x :: rest)) rfl (argsL := [.double x]) (rest := rest) (by rw [N.sig]; rfl) rfl hdg
  refine ⟨vm', X', fun target hrest => step target fun acts => ?_⟩
  obtain ⟨kS', N'⟩ := N.alike X'.warm.alike
  have nw : nativeFrameWords "java/lang/Double" "doubleToRawLongBits" 2 + 11 ≤ 40 := by decide +kernel
  have Sp' : oSp e (T.setVm vm') a b := Sp
  exact Steps.doubleToRawLongBitsOf (g := mkF m pc L rest) (ig := .invokestatic index) (len := 3) p X'.here acts N' x (Sp'.notFull (g := mkF m pc L rest) (vars := nativeFrameWords "java/lang/Double" "doubleToRawLongBits" 2) X'.here.top ha (by show L.size + 11 + 2 * 0 + operandWords rest + _ + 11 ≤ b; omega)) hdg hrest
theorem oHS.retD (X : oHS l e s m c below T) (hexec : p.tables.exec = Jvm.exec) {meth : Method} (hm : s.vm.method? m = some meth) (hret : meth.sig.returnType = some .double) {pc : Nat} {L : Array Slot} {rest : List Value} {x : UInt64} (hd : decode c.code pc = .ok (.dreturn, 1)) {fs : List Frame} (hl : ∀ (f : JFrame) (acts : List Action), f.method = m → f.locked = none → f.entered = [] → (doReturn e (T.setTop f) acts (some (.double x))).1 = T.setFrames fs) :
    Steps p.tables e below (T.setTop (mkF m pc L (.double x :: rest))) (T.setFrames fs) := by
  have hm' : T.vm.method? m = some meth := by rw [X.warm.alike.method?]; exact hm
  show Steps p.tables e below (T.setTop { method := m, pc := pc, locals := L, stack := _ :: rest, locked := none }) _
  jvm_step X.here [X.here.top, hexec, hd, hm', hret, narrow, Value.isRef]
  first | (intro acts; rw [hl _ acts rfl rfl rfl]) | rw [hl _ _ rfl rfl rfl]
  exact Steps.refl _
theorem oHS.retI (X : oHS l e s m c below T) (hexec : p.tables.exec = Jvm.exec) {meth : Method} (hm : s.vm.method? m = some meth) (hret : meth.sig.returnType = some .int) {pc : Nat} {L : Array Slot} {rest : List Value} {x : Int32} (hd : decode c.code pc = .ok (.ireturn, 1)) {fs : List Frame} (hl : ∀ (f : JFrame) (acts : List Action), f.method = m → f.locked = none → f.entered = [] → (doReturn e (T.setTop f) acts (some (.int x))).1 = T.setFrames fs) :
    Steps p.tables e below (T.setTop (mkF m pc L (.int x :: rest))) (T.setFrames fs) := by
  have hm' : T.vm.method? m = some meth := by rw [X.warm.alike.method?]; exact hm
  show Steps p.tables e below (T.setTop { method := m, pc := pc, locals := L, stack := _ :: rest, locked := none }) _
  jvm_step X.here [X.here.top, hexec, hd, hm', hret, narrow, Value.isRef]
  first | (intro acts; rw [hl _ acts rfl rfl rfl]) | rw [hl _ _ rfl rfl rfl]
  exact Steps.refl _
end Fl
theorem oStaMove {Z s : State} {h : Heap} {O n d : String} {v : Value} (hZ : Z.Warmed39 s.vm) (F : Sta Z h O n d v) : Sta s h O n d v := by
  obtain ⟨cf, i, k, f, st, cell, h1, h2, h3, h4, h5, h6, h7⟩ := F
  obtain ⟨k', hi, ek⟩ := State.fieldFound?_setVm (s := Z) hZ.alike h1
  exact ⟨cf, i, k', f, st, cell, hi, h2, by rw [ek]; exact h3, by rw [ek]; exact h4, h5, h6, h7⟩
theorem oHge {x : Int32} (h : ¬ x < 0) : if_icmp.holds .ge x 0 = true := by rw [(flt h).2.1]
theorem oHlt {x y : Int32} (h : x < y) : if_icmp.holds .lt x y = true := by rw [(tlt h).1]
section FlM
open Jvm.Stand Jvm.Free.Hsc
variable {p : Program} {l : Launch} {e : Env} {R : Room} {s : State} {m : MethodId} {args : Array Value} {below : List Frame} {meth : Method} {c : Code} {T : State} {locs : List Loc} {cells slots : Nat}
theorem oFloorRun (X : Stand p l e R s m args below meth c T locs cells slots) {mk : MethodId} {kP : Class} {methM : Method} {cM : Code} {x : UInt64}
    (hk : s.vm.classes[mk.cls]? = some kP) (hx : kP.methods[mk.idx]? = some methM) (hboot : kP.loader = none) (hkn : kP.name = "java/lang/Math") (hmn : methM.name = "floor") (hmd : methM.desc = "(D)D") (hsig : parseMethodDescriptor "(D)D" = some methM.sig) (hc : methM.code = some cM) (hml : cM.maxLocals = 2) (hl : methM.locks = false)
    {S_ : MethodName} {by1 : ByteArray} (hSc : S_.cls = "java/lang/StrictMath") (hSn : S_.name = "floor") (hSd : S_.desc = "(D)D") (hpl : plainFor S_ = true) (hiniS : (Jvm.Cond.initialized "java/lang/StrictMath").before args s = true) (hcode : (Jvm.Cond.code S_ by1 2 (some .double)).before args s = true)
    (B : oPur p l e s below S_ by1 (some .double) #[.val (.double x), .second] (.double x) T.heap 4 400) (hnn : x &&& 0x7fffffffffffffff ≤ 0x7ff0000000000000)
    {pc : Nat} {Ls : Array Slot} {S : List Value} (hsz : Ls.size = c.maxLocals) (hd : ∃ ig, decode c.code pc = .ok (ig, 3)) (hf : 6 ≤ R.frames) (hW : operandWords S ≤ 300) (hlo : (S.map fun v => v.category).sum + 13 ≤ R.locals) :
    ∃ vm2, s.WarmedH vm2 ∧ ∀ acts target, Steps p.tables e below ((T.setVm vm2).setTop (mkF m (pc + 3) Ls (.double x :: S))) target → Steps p.tables e below (doInvoke e (T.setTop (mkF m pc Ls S)) acts mk #[.double x]).1 target := by
  obtain ⟨k1, hk1, ek⟩ := X.warmed.alike.2.2 _ _ hk
  have hx1 : k1.methods[mk.idx]? = some methM := by rw [ek]; exact hx
  have hboot1 : k1.loader = none := by rw [ek]; exact hboot
  have hkn1 : k1.name = "java/lang/Math" := by rw [ek]; exact hkn
  have hm : T.vm.method? mk = some methM := by simp [Vm.method?, hk1, hx1]
  obtain ⟨g₀, hg⟩ := Option.isSome_iff_exists.mp X.here.top
  obtain ⟨r, hr⟩ := State.topJava?_eq_some.mp hg
  have htail : r = below := by have := X.tail; rw [hr] at this; exact this
  subst htail
  have hcur : T.cur < T.threads.size := State.cur_lt_of_frames hr
  have htop : T.setTop (mkF m pc Ls S) = T.setFrames (.java (mkF m pc Ls S) :: r) := State.setTop_of_frames _ hr
  have nf := X.notFull (g := mkF m pc Ls S) hsz (vars := cM.maxLocals) (by omega) (by rw [hml]; show 2 * 0 + (S.map fun v => v.category).sum + (2 + 11) ≤ _; omega)
  have en := fun acts => (doInvoke_java (s := T.setTop (mkF m pc Ls S)) (e := e) (acts := acts) (args := #[.double x]) (meth := methM) (code := cM) (by simpa using hm) hc hl nf).1
  -- StrictMath.floor
  obtain ⟨mS, hnS⟩ := Cond.code_named hcode
  obtain ⟨methS, cS, hmS, hcS, hbS, hlS, hrS, hkS, -, hsS⟩ := Cond.code_spec hnS hcode
  obtain ⟨kS, hkS', hnameS⟩ := className_of_methodNamed hnS
  have hfS0 : s.vm.findClass "java/lang/StrictMath" = some mS.cls := hSc ▸ findClass_of_methodNamed hnS
  have hiS0 : kS.init = .initialized := Cond.initialized_spec hfS0 hkS' hiniS
  have hmSf : kS.findMethod "floor" "(D)D" = some mS.idx := by
    have h := hnS
    simp only [State.methodNamed?, Option.bind_eq_bind, Option.pure_def] at h
    rw [hSc, hfS0] at h
    simp only [Option.bind_some, hkS'] at h
    cases hfm : kS.findMethod S_.name S_.desc with
    | none => rw [hfm] at h; cases h
    | some j => rw [hfm] at h; simp at h; rw [hSn, hSd] at hfm; rw [← h]; exact hfm
  obtain ⟨k2, hk2, ek2⟩ := X.warmed.alike.2.2 _ _ hkS'
  have hfS : T.vm.findClass "java/lang/StrictMath" = some mS.cls := by rw [X.warmed.alike.findClass]; exact hfS0
  have hiS : k2.init = .initialized := by rw [ek2]; exact hiS0
  have hmS2 : k2.findMethod "floor" "(D)D" = some mS.idx := by rw [ek2]; exact hmSf
  generalize enf : ({ method := mk, args := #[.double x], stage := 1, saved := #[], awaiting := true, answer := none, words := 0 } : NFrame) = nfr
  -- the stack, as the machine counts it
  have room : oSp e (T.setFrames (.java (mkF mS 0 #[.val (.double x), .second] []) :: .native nfr :: .java (mkF m pc Ls S) :: r)) 4 400 ∧ e.platform.stackFull (T.setFrames (.native nfr :: .java (mkF m pc Ls S) :: r)).me (.native nfr :: .java (mkF m pc Ls S) :: r) 2 = false := by
    obtain ⟨-, r2, -, r4⟩ := State.hasRoom_stack X.room
    rw [State.localsInUse_invoking X.frames X.method X.code] at r4
    rw [X.frames, List.length_cons] at r2
    have vw : vmFrameWords = 1024 := rfl
    have us := stackUse_le_stackWeight r
    have uc := stackUse_count r
    have lim := X.limits
    have u1 := stackUse_light (.native nfr) (.java (mkF m pc Ls S) :: r) (fun f q => by cases q) (by rw [← enf]; rfl)
    have u2 := stackUse_java (mkF m pc Ls S) r
    have w1 : stackUse (.native nfr :: .java (mkF m pc Ls S) :: r) = ((stackUse r).1 + 1 + 1, (stackUse r).2 + (Ls.size + 11 + 2 * 0 + operandWords S)) := by rw [u1, u2]
    refine ⟨⟨?_, ?_⟩, Platform.stackFull_eq_false ?_ ?_⟩
    · rw [State.stackLimits_setFrames, State.frames_setFrames _ hcur, List.tail_cons, w1, lim]; omega
    · rw [State.stackLimits_setFrames, State.frames_setFrames _ hcur, List.tail_cons, w1, lim]; show _ + _ + 400 ≤ _; omega
    · rw [State.stackLimits_setFrames, lim]; simp only [List.length_cons]; omega
    · rw [State.stackLimits_setFrames, w1, lim]; show _ + _ + 2 + 11 ≤ _; omega
  obtain ⟨SpU, nf2⟩ := room
  have hN : (T.setFrames (.native nfr :: .java (mkF m pc Ls S) :: r)).frames = .native nfr :: .java (mkF m pc Ls S) :: r := State.frames_setFrames _ hcur
  have hmST : T.vm.method? mS = some methS := by rw [X.warmed.alike.method?]; exact hmS
  have en2 := fun acts => (doInvoke_java (s := T.setFrames (.native nfr :: .java (mkF m pc Ls S) :: r)) (e := e) (acts := acts) (m := mS) (args := #[.double x]) (meth := methS) (code := cS) hmST hcS hkS (by rw [hN, hlS]; exact nf2)).1
  have eU : (T.setFrames (.native nfr :: .java (mkF m pc Ls S) :: r)).pushFrame (.java { method := mS, pc := 0, locals := argsToLocals #[.double x] 2, stack := [], locked := none }) = T.setFrames (.java (mkF mS 0 #[.val (.double x), .second] []) :: .native nfr :: .java (mkF m pc Ls S) :: r) := by
    rw [State.pushFrame, hN, State.setFrames_setFrames]; rfl
  have hUf : (T.setFrames (.java (mkF mS 0 #[.val (.double x), .second] []) :: .native nfr :: .java (mkF m pc Ls S) :: r)).frames = .java (mkF mS 0 #[.val (.double x), .second] []) :: .native nfr :: .java (mkF m pc Ls S) :: r := State.frames_setFrames _ hcur
  have hpm0 : (s.setVm T.vm).plainMethod mS := State.plainMethod.of_named hpl ((State.methodNamed?_setVm X.warmed.alike S_).trans hnS) hmST
  have hAt : At (T.setFrames (.java (mkF mS 0 #[.val (.double x), .second] []) :: .native nfr :: .java (mkF m pc Ls S) :: r)) mS cS r :=
    ⟨by rw [State.topJava?_of_frames hUf]; rfl, ⟨[.native nfr, .java (mkF m pc Ls S)], by rw [hUf]; rfl⟩, X.here.running, by simpa using X.here.runnable, by simpa using X.here.alone, by rw [State.code?_eq]; show (T.vm.method? mS).bind _ = _; rw [hmST]; exact hcS, hpm0⟩
  obtain ⟨vm2, X2, run⟩ := B mS methS cS _ ⟨X.admits, hAt, X.warmed⟩ hbS hmS hrS (findClass_of_methodNamed hnS) rfl SpU
  refine ⟨vm2, X2.warm, fun acts target hrest => ?_⟩
  obtain ⟨ig, hdg⟩ := hd
  rw [en acts, hml]
  have hU : (T.setTop (mkF m pc Ls S)).pushFrame (.java { method := mk, pc := 0, locals := argsToLocals #[.double x] 2, stack := [], locked := none }) = T.setFrames (.java (entryFrame mk #[.double x] 2) :: .java (mkF m pc Ls S) :: r) := by
    rw [State.pushFrame, State.frames_setTop _ hr, htop, State.setFrames_setFrames]; rfl
  rw [hU]
  have hf1 : (T.setFrames (.java (entryFrame mk #[.double x] 2) :: .java (mkF m pc Ls S) :: r)).frames = .java (entryFrame mk #[.double x] 2) :: .java (mkF m pc Ls S) :: r := State.frames_setFrames _ hcur
  have hov : overridden p.tables e (T.setFrames (.java (entryFrame mk #[.double x] 2) :: .java (mkF m pc Ls S) :: r)) (entryFrame mk #[.double x] 2) = some floorRow := Jvm.Free.Fl.Abs.overridden_some (k := k1) (x := methM) rfl hk1 (by rw [hkn1]; decide) hboot1 hx1 (by rw [hkn1, hmn, hmd]; exact floor_row p)
  obtain ⟨acts₂, hr2⟩ := floor_run x e (T.setFrames (.native { method := mk, args := #[.double x] } :: .java (mkF m pc Ls S) :: r)) (cS := mS.cls) (kS := k2) (i := mS.idx) hfS hk2 hiS hmS2
  have hb3 : (T.vm.classes[mk.cls]?.bind fun y => y.methods[mk.idx]?) = some methM := by simp [hk1, hx1]
  have hb2 : ∀ F : List Frame, ((T.setFrames F).vm.classes[mk.cls]?.bind fun y => y.methods[mk.idx]?) = some methM := fun F => hb3
  have hw3 : ((T.vm.classes[mk.cls]?).bind fun k => Option.map (fun n => upcallWords k.name n.name) k.methods[mk.idx]?).getD 0 = 0 := by simp [hk1, hx1, hkn1, hmn, upcallWords]
  have hwords : ∀ F : List Frame, (((T.setFrames F).vm.classes[mk.cls]?).bind fun k => (k.methods[mk.idx]?).map fun n => upcallWords k.name n.name).getD 0 = 0 := fun F => hw3
  have hparams : methM.sig.parameters.length = 1 := by
    have h3 := hsig
    rw [show parseMethodDescriptor "(D)D" = some { parameters := [.double], returnType := some .double } by decide +kernel] at h3
    rw [← Option.some.inj h3]; rfl
  have htake : ∀ n : Nat, List.take (1 + n) [Value.double x] = [Value.double x] := fun n => List.take_of_length_le (Nat.le_add_right 1 n)
  have hstep2 : (stepThread p.tables e (T.setFrames (.java (entryFrame mk #[.double x] 2) :: .java (mkF m pc Ls S) :: r))).1 = (doInvoke e (T.setFrames (.native nfr :: .java (mkF m pc Ls S) :: r)) acts₂ mS #[.double x]).1 := by
    rw [← enf]
    unfold stepThread
    simp only [hf1, hov]
    simp [entryFrame, argsToLocals, Value.category, argCount, hb2, hb3, hparams, htake, hr2, afterNative, hwords, hw3, State.setFrames_setFrames]
  refine Steps.head ⟨X.here.running, by simpa using X.here.runnable, by simpa using X.here.alone⟩ ⟨[.java (entryFrame mk #[.double x] 2), .java (mkF m pc Ls S)], by rw [hf1]; rfl, by simp, by simp⟩ ?_
  rw [hstep2, en2 acts₂, hlS, eU]
  generalize enf2 : ({ nfr with awaiting := false, answer := some (.returned (some (.double x))) } : NFrame) = nf3
  have eT : T.setFrames (.java (mkF mS 0 #[.val (.double x), .second] []) :: .native nfr :: .java (mkF m pc Ls S) :: r) = (T.setFrames (.java (mkF mS 0 #[.val (.double x), .second] []) :: .native nfr :: .java (mkF m pc Ls S) :: r)).setTop (mkF mS 0 #[.val (.double x), .second] []) := by
    rw [State.setTop_of_frames _ hUf, State.setFrames_setFrames]
  rw [eT]
  refine (run (.native nf3 :: .java (mkF m pc Ls S) :: r) fun f acts' q1 q2 q3 => ?_).trans ?_
  · have hW : ((T.setFrames (.java (mkF mS 0 #[.val (.double x), .second] []) :: .native nfr :: .java (mkF m pc Ls S) :: r)).setVm vm2).frames = .java (mkF mS 0 #[.val (.double x), .second] []) :: .native nfr :: .java (mkF m pc Ls S) :: r := hUf
    have hmW : ((T.setFrames (.java (mkF mS 0 #[.val (.double x), .second] []) :: .native nfr :: .java (mkF m pc Ls S) :: r)).setVm vm2).vm.method? f.method = some methS := by rw [q1, X2.warm.alike.method?]; exact hmS
    generalize (T.setFrames (.java (mkF mS 0 #[.val (.double x), .second] []) :: .native nfr :: .java (mkF m pc Ls S) :: r)).setVm vm2 = W at hW hmW
    have h := (doReturn_plain (e := e) (s := W.setTop f) (acts := acts') (v := some (.double x)) (f := f) (below := .native nfr :: .java (mkF m pc Ls S) :: r) (fs := .native nf3 :: .java (mkF m pc Ls S) :: r) (meth := methS) (State.frames_setTop _ hW) (by simpa using hmW) hkS q2 q3 (by rw [← enf2]; rfl)).1
    rw [h, State.setTop_of_frames _ hW, State.setFrames_setFrames]
  · have es2 : ((T.setFrames (.java (mkF mS 0 #[.val (.double x), .second] []) :: .native nfr :: .java (mkF m pc Ls S) :: r)).setVm vm2).setFrames (.native nf3 :: .java (mkF m pc Ls S) :: r) = (T.setVm vm2).setFrames (.native nf3 :: .java (mkF m pc Ls S) :: r) := by
      show ((T.setVm vm2).setFrames _).setFrames _ = _
      rw [State.setFrames_setFrames]
    rw [es2]
    subst enf2 enf
    have hcur2 : (T.setVm vm2).cur < (T.setVm vm2).threads.size := hcur
    have hend := State.frames_setFrames (s := T.setVm vm2) (.native { method := mk, args := #[.double x], stage := 1, saved := #[], awaiting := false, answer := some (.returned (some (.double x))), words := 0 } :: .java (mkF m pc Ls S) :: r) hcur2
    obtain ⟨k3, hk3, ek3⟩ := X2.warm.alike.2.2 _ _ hk
    have hk3' : vm2.classes[mk.cls]? = some k3 := hk3
    have hx3 : k3.methods[mk.idx]? = some methM := by rw [ek3]; exact hx
    have hboot3 : k3.loader = none := by rw [ek3]; exact hboot
    have hkn3 : k3.name = "java/lang/Math" := by rw [ek3]; exact hkn
    have hcode2 : ((T.setVm vm2).setFrames (.native { method := mk, args := #[.double x], stage := 1, saved := #[], awaiting := false, answer := some (.returned (some (.double x))), words := 0 } :: .java (mkF m pc Ls S) :: r)).code? m = some c := by
      rw [State.code?_eq]
      have q : vm2.method? m = some meth := by have := X2.warm.alike.method? m; rw [X.method] at this; exact this
      show (vm2.method? m).bind _ = _
      rw [q]; exact X.code
    obtain ⟨acts₃, hr3⟩ := floor_resume hnn e ((T.setVm vm2).setFrames (.native { method := mk, args := #[.double x], stage := 1, saved := #[], awaiting := false, answer := some (.returned (some (.double x))), words := 0 } :: .java (mkF m pc Ls S) :: r))
    have hfs : handOver ((T.setVm vm2).setFrames (.native { method := mk, args := #[.double x], stage := 1, saved := #[], awaiting := false, answer := some (.returned (some (.double x))), words := 0 } :: .java (mkF m pc Ls S) :: r)) (some (.double x)) (.java (mkF m pc Ls S) :: r) = some (.java (mkF m (pc + 3) Ls (.double x :: S)) :: r) := by
      have hcode3 : ((T.setVm vm2).setFrames (.native { method := mk, args := #[.double x], stage := 1, saved := #[], awaiting := false, answer := some (.returned (some (.double x))), words := 0 } :: .java (mkF m pc Ls S) :: r)).code? (mkF m pc Ls S).method = some c := hcode2
      have hdg3 : decode c.code (mkF m pc Ls S).pc = .ok (ig, 3) := hdg
      simp [handOver, hcode3, hdg3, Except.toOption]
    have hstep4 : (stepThread p.tables e ((T.setVm vm2).setFrames (.native { method := mk, args := #[.double x], stage := 1, saved := #[], awaiting := false, answer := some (.returned (some (.double x))), words := 0 } :: .java (mkF m pc Ls S) :: r))).1 = ((T.setVm vm2).setFrames (.native { method := mk, args := #[.double x], stage := 1, saved := #[], awaiting := false, answer := some (.returned (some (.double x))), words := 0 } :: .java (mkF m pc Ls S) :: r)).setFrames (.java (mkF m (pc + 3) Ls (.double x :: S)) :: r) := by
      rw [stepThread_resumed' (f := { method := mk, args := #[.double x], stage := 1, saved := #[], awaiting := false, answer := some (.returned (some (.double x))), words := 0 }) (o := .returned (some (.double x))) hend hk3 hboot3 hx3 (by rw [hkn3, hmn, hmd]; exact floor_row p) rfl]
      show (afterNative e _ _ ((floorRow.resume 1 #[] (.returned (some (.double x)))).run e _)).1 = _
      rw [hr3]
      exact doReturn_native (f := { method := mk, args := #[.double x], stage := 1, saved := #[], awaiting := false, answer := some (.returned (some (.double x))), words := 0 }) hend rfl hfs
    refine Steps.head ⟨X.here.running, by simpa using X.here.runnable, by simpa using X.here.alone⟩ ⟨[.native { method := mk, args := #[.double x], stage := 1, saved := #[], awaiting := false, answer := some (.returned (some (.double x))), words := 0 }, .java (mkF m pc Ls S)], by rw [hend]; rfl, by simp, by simp⟩ ?_
    rw [hstep4, State.setFrames_setFrames]
    have hr3' : (T.setVm vm2).frames = .java g₀ :: r := hr
    rw [State.setTop_of_frames _ hr3'] at hrest
    exact hrest
end FlM

def oPs (D : oDsc) : Prop := (∃ x0 : Int32, D = .inl (.int, [.int x0]) ∧ 1 ≤ x0.toInt ∧ x0.toInt ≤ 1000) ∨ ∃ x0 x1 : Int32, D = .inl (.int, [.int x0, .int x1]) ∧ 1 ≤ x0.toInt ∧ x0.toInt < x1.toInt ∧ x1.toInt ≤ 1000
abbrev e2 (n : Nat) := decode jdk_29_method_65_code n
theorem d2_0 : e2 0=.ok (.iload_n 0,1):=by decide +kernel
theorem d2_1 : e2 1=.ok (.iload_n 1,1):=by decide +kernel
theorem d2_2 : e2 2=.ok (.if_icmp .lt 7,3):=by decide +kernel
theorem d2_5 : e2 5=.ok (.iload_n 0,1):=by decide +kernel
theorem d2_6 : e2 6=.ok (.goto 4,3):=by decide +kernel
theorem d2_9 : e2 9=.ok (.iload_n 1,1):=by decide +kernel
theorem d2_10 : e2 10=.ok (.ireturn,1):=by decide +kernel
section Own
variable {l : Launch} {Z : State} {a0 : Array Value} {h0 : Heap} {b0 b1 b2 b3 b4 b5 b6 b7 b8 b9 b10 b11 b12 b13 : Addr}
theorem own_max (hw : oHw a0 Z) {ds0 : oDs} {xa ya : Int32} :
  oCtr l Z h0 [] nM0 jdk_29_method_65_code 2 (some .int) (oR 0 0 0 0) #[.int xa,.int ya] ds0 (oVal fun w d=>∃ z : Int32,w=.int z∧z.toInt=max xa.toInt ya.toInt∧d=ds0):=by
 refine oCtr.of (Ls:=#[.val (.int xa),.val (.int ya)]) (Jvm.Free.JP.mathPlain rfl (by decide +kernel)) (fun m=>by first|(simp [entryFrame,mkF,argsToLocals,Value.category]; done)|rfl) ?_
 intro p e s m below meth c K
 refine Ye 1 K d2_0 <|Ye 2 K d2_1 ?_
 refine H1 9 5 K d2_2 (fun c2=>?_) (fun c2=>?_)
 ·simp only [oLt32,oEq32,Int32.reduceToInt] at c2
  refine Ye 10 K d2_9 ?_
  exact Yq K d2_10 ⟨_,rfl,_,rfl,by omega,rfl⟩
 simp only [oLt32,oEq32,Int32.reduceToInt] at c2
 refine Ye 6 K d2_5 <|Yi 10 K d2_6 ?_
 exact Yq K d2_10 ⟨_,rfl,_,rfl,by omega,rfl⟩
abbrev e10 (n : Nat) := decode jdk_29_method_69_code n
theorem d10_0 : e10 0=.ok (.iload_n 0,1):=by decide +kernel
theorem d10_1 : e10 1=.ok (.iload_n 1,1):=by decide +kernel
theorem d10_2 : e10 2=.ok (.if_icmp .gt 7,3):=by decide +kernel
theorem d10_5 : e10 5=.ok (.iload_n 0,1):=by decide +kernel
theorem d10_6 : e10 6=.ok (.goto 4,3):=by decide +kernel
theorem d10_9 : e10 9=.ok (.iload_n 1,1):=by decide +kernel
theorem d10_10 : e10 10=.ok (.ireturn,1):=by decide +kernel
theorem own_min (hw : oHw a0 Z) {ds0 : oDs} {xa ya : Int32} :
  oCtr l Z h0 [] nM1 jdk_29_method_69_code 2 (some .int) (oR 0 0 0 0) #[.int xa,.int ya] ds0 (oVal fun w d=>∃ z : Int32,w=.int z∧z.toInt=min xa.toInt ya.toInt∧d=ds0):=by
 refine oCtr.of (Ls:=#[.val (.int xa),.val (.int ya)]) (Jvm.Free.JP.mathPlain rfl (by decide +kernel)) (fun m=>by first|(simp [entryFrame,mkF,argsToLocals,Value.category]; done)|rfl) ?_
 intro p e s m below meth c K
 refine Ye 1 K d10_0 <|Ye 2 K d10_1 ?_
 refine Hd 9 5 K d10_2 (fun c2=>?_) (fun c2=>?_)
 ·simp only [oLt32,oEq32,Int32.reduceToInt] at c2
  refine Ye 10 K d10_9 ?_
  exact Yq K d10_10 ⟨_,rfl,_,rfl,by omega,rfl⟩
 simp only [oLt32,oEq32,Int32.reduceToInt] at c2
 refine Ye 6 K d10_5 <|Yi 10 K d10_6 ?_
 exact Yq K d10_10 ⟨_,rfl,_,rfl,by omega,rfl⟩
abbrev e26 (n : Nat) := decode jdk_29_method_70_code n
theorem d26_0 : e26 0=.ok (.lload_n 0,1):=by decide +kernel
theorem d26_1 : e26 1=.ok (.lload_n 2,1):=by decide +kernel
theorem d26_2 : e26 2=.ok (.lcmp,1):=by decide +kernel
theorem d26_3 : e26 3=.ok (.ifCond .gt 7,3):=by decide +kernel
theorem d26_6 : e26 6=.ok (.lload_n 0,1):=by decide +kernel
theorem d26_7 : e26 7=.ok (.goto 4,3):=by decide +kernel
theorem d26_10 : e26 10=.ok (.lload_n 2,1):=by decide +kernel
theorem d26_11 : e26 11=.ok (.lreturn,1):=by decide +kernel
theorem own_minJ (hw : oHw a0 Z) {ds0 : oDs} {xa ya : Int64} :
  oCtr l Z h0 [] nM2 jdk_29_method_70_code 4 (some .long) (oR 0 0 0 0) #[.long xa,.long ya] ds0 (oVal fun w d=>∃ z : Int64,w=.long z∧z.toInt=min xa.toInt ya.toInt∧d=ds0):=by
 refine oCtr.of (Ls:=#[.val (.long xa),.second,.val (.long ya),.second]) (Jvm.Free.JP.mathPlain rfl (by decide +kernel)) (fun m=>by first|(simp [entryFrame,mkF,argsToLocals,Value.category]; done)|rfl) ?_
 intro p e s m below meth c K
 refine G6 1 K d26_0 <|G6 2 K d26_1 ?_
 obtain ⟨v2,ev2⟩:=oE (XT.cmpL xa ya : Int32)
 refine Y6 3 K d26_2 ev2 ?_
 refine Hg 10 6 K d26_3 (fun c3=>?_) (fun c3=>?_)
 ·rw [(oLcmp ev2).2.2] at c3
  refine G6 11 K d26_10 ?_
  exact Ho K d26_11 ⟨_,rfl,_,rfl,by omega,rfl⟩
 rw [(oLcmp ev2).2.2] at c3
 refine G6 7 K d26_6 <|Yi 11 K d26_7 ?_
 exact Ho K d26_11 ⟨_,rfl,_,rfl,by omega,rfl⟩
abbrev e12 (n : Nat) := decode prog_6_method_7_code n
theorem d12_0 : e12 0=.ok (.iload_n 0,1):=by decide +kernel
theorem d12_1 : e12 1=.ok (.i2l,1):=by decide +kernel
theorem d12_2 : e12 2=.ok (.bipush 32,2):=by decide +kernel
theorem d12_4 : e12 4=.ok (.lshl,1):=by decide +kernel
theorem d12_5 : e12 5=.ok (.iload_n 1,1):=by decide +kernel
theorem d12_6 : e12 6=.ok (.i2l,1):=by decide +kernel
theorem d12_7 : e12 7=.ok (.lor,1):=by decide +kernel
theorem d12_8 : e12 8=.ok (.lreturn,1):=by decide +kernel
theorem own_of (hw : oHw a0 Z) {ds0 : oDs} {xa ya : Int32} (hp : 0≤xa.toInt) (hq : 0≤ya.toInt) :
  oCtr l Z h0 [] nM3 prog_6_method_7_code 2 (some .long) (oR 0 0 0 0) #[.int xa,.int ya] ds0 (oVal fun w d=>∃ z : Int64,w=.long z∧z.toInt=xa.toInt * 4294967296 + ya.toInt∧d=ds0):=by
 refine oCo #[.val (.int xa),.val (.int ya)] ?_
 intro p e s m below meth c K
 refine Ye 1 K d12_0 ?_
 obtain ⟨v1,ev1⟩:=oE (xa.toInt64 : Int64)
 refine Gd 2 K d12_1 ev1 <|Gt 32 4 K d12_2 ?_
 obtain ⟨v4,ev4⟩:=oE (v1 <<< ((32 : Int32).toInt64 &&& 63) : Int64)
 refine Hz 5 K d12_4 ev4 <|Ye 6 K d12_5 ?_
 obtain ⟨v6,ev6⟩:=oE (ya.toInt64 : Int64)
 refine Gd 7 K d12_6 ev6 ?_
 obtain ⟨v7,ev7⟩:=oE (v4 ||| v6 : Int64)
 refine Hx 8 K d12_7 ev7 ?_
 exact Ho K d12_8 ⟨_,rfl,_,rfl,oOf (by rw [ev4,ev1]) ev6 ev7 hp hq,rfl⟩
abbrev e31 (n : Nat) := decode prog_6_method_5_code n
theorem d31_0 : e31 0=.ok (.lload_n 0,1):=by decide +kernel
theorem d31_1 : e31 1=.ok (.bipush 32,2):=by decide +kernel
theorem d31_3 : e31 3=.ok (.lushr,1):=by decide +kernel
theorem d31_4 : e31 4=.ok (.l2i,1):=by decide +kernel
theorem d31_5 : e31 5=.ok (.ireturn,1):=by decide +kernel
theorem own_position (hw : oHw a0 Z) {ds0 : oDs} {xa : Int64} {pp ww : Int} (hx : xa.toInt=pp * 4294967296 + ww) (hp : 0≤pp∧pp < 2147483648) (hq : 0≤ww∧ww < 2147483648) :
  oCtr l Z h0 [] nM4 prog_6_method_5_code 2 (some .int) (oR 0 0 0 0) #[.long xa] ds0 (oVal fun w d=>∃ z : Int32,w=.int z∧z.toInt=pp∧d=ds0):=by
 refine oCo #[.val (.long xa),.second] ?_
 intro p e s m below meth c K
 refine G6 1 K d31_0 <|Gt 32 3 K d31_1 ?_
 obtain ⟨v3,ev3⟩:=oE (XT.ushrL xa (32 : Int32) : Int64)
 refine H0 4 K d31_3 ev3 ?_
 obtain ⟨v4,ev4⟩:=oE (v3.toInt32 : Int32)
 refine Gs 5 K d31_4 ev4 ?_
 exact Yq K d31_5 ⟨_,rfl,_,rfl,oPos ev3 ev4 hx hp hq,rfl⟩
abbrev e32 (n : Nat) := decode prog_6_method_6_code n
theorem d32_0 : e32 0=.ok (.lload_n 0,1):=by decide +kernel
theorem d32_1 : e32 1=.ok (.l2i,1):=by decide +kernel
theorem d32_2 : e32 2=.ok (.ireturn,1):=by decide +kernel
theorem own_word (hw : oHw a0 Z) {ds0 : oDs} {xa : Int64} {pp ww : Int} (hx : xa.toInt=pp * 4294967296 + ww) (hq : 0≤ww∧ww < 2147483648) :
  oCtr l Z h0 [] nM5 prog_6_method_6_code 2 (some .int) (oR 0 0 0 0) #[.long xa] ds0 (oVal fun w d=>∃ z : Int32,w=.int z∧z.toInt=ww∧d=ds0):=by
 refine oCo #[.val (.long xa),.second] ?_
 intro p e s m below meth c K
 refine G6 1 K d32_0 ?_
 obtain ⟨v1,ev1⟩:=oE (xa.toInt32 : Int32)
 refine Gs 2 K d32_1 ev1 ?_
 exact Yq K d32_2 ⟨_,rfl,_,rfl,oWord ev1 hx hq,rfl⟩
abbrev e16 (n : Nat) := decode jdk_65_method_30_code n
theorem d16_0 : e16 0=.ok (.iload_n 1,1):=by decide +kernel
theorem d16_1 : e16 1=.ok (.iload_n 2,1):=by decide +kernel
theorem d16_2 : e16 2=.ok (.if_icmp .le 44,3):=by decide +kernel
theorem d16_46 : e16 46=.ok (.iload_n 1,1):=by decide +kernel
theorem d16_47 : e16 47=.ok (.ifCond .ge 12,3):=by decide +kernel
theorem d16_59 : e16 59=.ok (.iload_n 2,1):=by decide +kernel
theorem d16_60 : e16 60=.ok (.iload_n 0,1):=by decide +kernel
theorem d16_61 : e16 61=.ok (.if_icmp .le 12,3):=by decide +kernel
theorem d16_73 : e16 73=.ok (.return_,1):=by decide +kernel
theorem own_rc (hw : oHw a0 Z) {ds0 : oDs} {xa ya za : Int32} (h1 : ¬ za < ya) (h2 : ¬ ya < 0) (h3 : ¬ xa < za) :
  oCtr l Z h0 [] nM6 jdk_65_method_30_code 3 none (oR 0 0 0 0) #[.int xa,.int ya,.int za] ds0 (oVoid fun d=>d=ds0):=by
 refine oCo #[.val (.int xa),.val (.int ya),.val (.int za)] ?_
 intro p e s m below meth c K
 refine Ye 1 K d16_0 <|Ye 2 K d16_1 ?_
 refine oW.icmp_le (pc':=46) (pc3:=5) K d16_2 (by decide) (by decide) rfl (fun c2=>?_) (fun q=>absurd q h1)
 refine Ye 47 K d16_46 ?_
 refine oW.if_ge (pc':=59) (pc3:=50) K d16_47 (by decide) (by decide) rfl (fun c47=>?_) (fun q=>absurd q h2)
 refine Ye 60 K d16_59 <|Ye 61 K d16_60 ?_
 refine oW.icmp_le (pc':=73) (pc3:=64) K d16_61 (by decide) (by decide) rfl (fun c61=>?_) (fun q=>absurd q h3)
 exact Ga K d16_73 ⟨rfl,rfl⟩
abbrev e30 (n : Nat) := decode jdk_65_method_56_code n
theorem d30_0 : e30 0=.ok (.iload_n 1,1):=by decide +kernel
theorem d30_1 : e30 1=.ok (.istore 5,2):=by decide +kernel
theorem d30_3 : e30 3=.ok (.iload_n 2,1):=by decide +kernel
theorem d30_4 : e30 4=.ok (.iconst 1,1):=by decide +kernel
theorem d30_5 : e30 5=.ok (.isub,1):=by decide +kernel
theorem d30_6 : e30 6=.ok (.istore 6,2):=by decide +kernel
theorem d30_8 : e30 8=.ok (.iload 5,2):=by decide +kernel
theorem d30_10 : e30 10=.ok (.iload 6,2):=by decide +kernel
theorem d30_12 : e30 12=.ok (.if_icmp .gt 56,3):=by decide +kernel
theorem d30_15 : e30 15=.ok (.iload 5,2):=by decide +kernel
theorem d30_17 : e30 17=.ok (.iload 6,2):=by decide +kernel
theorem d30_19 : e30 19=.ok (.iadd,1):=by decide +kernel
theorem d30_20 : e30 20=.ok (.iconst 1,1):=by decide +kernel
theorem d30_21 : e30 21=.ok (.iushr,1):=by decide +kernel
theorem d30_22 : e30 22=.ok (.istore 7,2):=by decide +kernel
theorem d30_24 : e30 24=.ok (.aload_n 0,1):=by decide +kernel
theorem d30_25 : e30 25=.ok (.iload 7,2):=by decide +kernel
theorem d30_27 : e30 27=.ok (.laload,1):=by decide +kernel
theorem d30_28 : e30 28=.ok (.lstore 8,2):=by decide +kernel
theorem d30_30 : e30 30=.ok (.lload 8,2):=by decide +kernel
theorem d30_32 : e30 32=.ok (.lload_n 3,1):=by decide +kernel
theorem d30_33 : e30 33=.ok (.lcmp,1):=by decide +kernel
theorem d30_34 : e30 34=.ok (.ifCond .ge 12,3):=by decide +kernel
theorem d30_37 : e30 37=.ok (.iload 7,2):=by decide +kernel
theorem d30_39 : e30 39=.ok (.iconst 1,1):=by decide +kernel
theorem d30_40 : e30 40=.ok (.iadd,1):=by decide +kernel
theorem d30_41 : e30 41=.ok (.istore 5,2):=by decide +kernel
theorem d30_43 : e30 43=.ok (.goto 22,3):=by decide +kernel
theorem d30_46 : e30 46=.ok (.lload 8,2):=by decide +kernel
theorem d30_48 : e30 48=.ok (.lload_n 3,1):=by decide +kernel
theorem d30_49 : e30 49=.ok (.lcmp,1):=by decide +kernel
theorem d30_50 : e30 50=.ok (.ifCond .le 12,3):=by decide +kernel
theorem d30_53 : e30 53=.ok (.iload 7,2):=by decide +kernel
theorem d30_55 : e30 55=.ok (.iconst 1,1):=by decide +kernel
theorem d30_56 : e30 56=.ok (.isub,1):=by decide +kernel
theorem d30_57 : e30 57=.ok (.istore 6,2):=by decide +kernel
theorem d30_59 : e30 59=.ok (.goto 6,3):=by decide +kernel
theorem d30_62 : e30 62=.ok (.iload 7,2):=by decide +kernel
theorem d30_64 : e30 64=.ok (.ireturn,1):=by decide +kernel
theorem d30_65 : e30 65=.ok (.goto (-57),3):=by decide +kernel
theorem d30_68 : e30 68=.ok (.iload 5,2):=by decide +kernel
theorem d30_70 : e30 70=.ok (.iconst 1,1):=by decide +kernel
theorem d30_71 : e30 71=.ok (.iadd,1):=by decide +kernel
theorem d30_72 : e30 72=.ok (.ineg,1):=by decide +kernel
theorem d30_73 : e30 73=.ok (.ireturn,1):=by decide +kernel
theorem own_bsJ0 (hw : oHw a0 Z) {ds0 : oDs} {ax : Addr} {ix : Nat} {xs : List Int64} {tn : Int32} {n : Nat} (hi : ds0[ix]?=some (ax,.inl (.long,xs.map .long))) (htn : tn.toInt=(n : Int)) (hn : n≤xs.length) (hxl : xs.length≤1000) (hs : oSrt xs n) {ky : Int64} :
  oCtr l Z h0 [] nM7 jdk_65_method_56_code 10 (some .int) (oR 0 0 0 0) #[.ref ax,.int 0,.int tn,.long ky] ds0 (oVal fun w d=>∃ (z : Int32) (r : Nat),w=.int z∧(z.toInt=(r : Int)∨z.toInt=-(r : Int) - 1)∧oCut xs n r ky.toInt∧d=ds0):=by
 refine oCo #[.val (.ref ax),.val (.int 0),.val (.int tn),.val (.long ky),.second,.unset,.unset,.unset,.unset,.unset] ?_
 intro p e s m below meth c K
 refine Ye 1 K d30_0 ?_
 refine Yj 3 K d30_1 U5 <|Ye 4 K d30_3 <|Yd 1 5 K d30_4 ?_
 obtain ⟨v5,ev5⟩:=oE (tn - (1 : Int32) : Int32)
 refine Y9 6 K d30_5 ev5 ?_
 have tv5:=oIsub ev5 oOm
 try simp only [Int32.reduceToInt,Int64.reduceToInt] at tv5
 refine Yj 8 K d30_6 U6 ?_
 refine oW.loop (F:=fun z : Int32 × Int32 × Slot × Slot × Slot=>0≤z.1.toInt∧z.1.toInt≤z.2.1.toInt + 1∧z.2.1.toInt < n∧(∀ (i : Nat) (x : Int64),(i : Int) < z.1.toInt→xs[i]?=some x→x.toInt < ky.toInt)∧(∀ (i : Nat) (x : Int64),z.2.1.toInt < (i : Int)→i < n→xs[i]?=some x→ky.toInt < x.toInt)∧oDead z.2.2.1∧oDeadJ z.2.2.2.1 z.2.2.2.2) (mu:=fun z=>(z.2.1.toInt - z.1.toInt + 1).toNat) (pcj:=8) (Lf:=fun z=>#[.val (.ref ax),.val (.int 0),.val (.int tn),.val (.long ky),.second,.val (.int z.1),.val (.int z.2.1),z.2.2.1,z.2.2.2.1,z.2.2.2.2]) (Sf:=fun z=>[]) (dsf:=fun z=>ds0) ?_ ((0 : Int32),v5,(.unset : Slot),(.unset : Slot),(.unset : Slot)) (by dsimp only; have:=oTs; exact ⟨by decide,by omega,by omega,fun i x h=>absurd h (by omega),fun i x h1 h2=>absurd h1 (by omega),Or.inl rfl,Or.inl ⟨rfl,rfl⟩⟩)
 rintro ⟨lo,hi_,s1,s2,s3⟩ hF8 IH8
 dsimp only at hF8 IH8 ⊢
 obtain ⟨f1,f2,f3,f4,f5,f6,f7⟩:=hF8
 refine Yb 10 K d30_8 <|Yb 12 K d30_10 ?_
 refine Hd 68 15 K d30_12 (fun c12=>?_) (fun c12=>?_)
 ·simp only [oLt32,oEq32,Int32.reduceToInt] at c12
  refine Yb 70 K d30_68 <|Yd 1 71 K d30_70 ?_
  obtain ⟨v71,ev71⟩:=oE (lo + (1 : Int32) : Int32)
  refine Y0 72 K d30_71 ev71 ?_
  have tv71:=oIadd ev71 oOm
  try simp only [Int32.reduceToInt,Int64.reduceToInt] at tv71
  obtain ⟨v72,ev72⟩:=oE (-v71 : Int32)
  refine Ht 73 K d30_72 ev72 ?_
  have tv72:=oIneg ev72 (by omega)
  exact Yq K d30_73 ⟨_,rfl,_,lo.toInt.toNat,rfl,Or.inr (by omega),⟨by omega,fun i x h q=>f4 i x (by omega) q,fun i x h1 h2 q=>Int.le_of_lt (f5 i x (by omega) h2 q)⟩,rfl⟩
 simp only [oLt32,oEq32,Int32.reduceToInt] at c12
 refine Yb 17 K d30_15 <|Yb 19 K d30_17 ?_
 obtain ⟨v19,ev19⟩:=oE (lo + hi_ : Int32)
 refine Y0 20 K d30_19 ev19 ?_
 have tv19:=oIadd ev19 oOm
 try simp only [Int32.reduceToInt,Int64.reduceToInt] at tv19
 refine Yd 1 21 K d30_20 ?_
 obtain ⟨v21,ev21⟩:=oE (XT.ushr v19 (1 : Int32) : Int32)
 refine G4 22 K d30_21 ev21 ?_
 have tv21:=oHalf ev21 (by omega)
 refine oW.istore (Ls':=#[.val (.ref ax),.val (.int 0),.val (.int tn),.val (.long ky),.second,.val (.int lo),.val (.int hi_),.val (.int v21),s2,s3]) (pc':=24) K d30_22 (oStoreDead rfl f6 rfl) rfl ?_
 refine Ya 25 K d30_24 <|Yb 27 K d30_25 ?_
 obtain ⟨x27,g27⟩:=oHas (xs:=xs) (k:=v21.toInt.toNat) (by omega)
 refine oW.laloadJ (i:=ix) (k:=v21.toInt.toNat) (pc':=28) K d30_27 hi (oIdx (by omega)) (by omega) g27 rfl ?_
 refine oW.lstore (Ls':=#[.val (.ref ax),.val (.int 0),.val (.int tn),.val (.long ky),.second,.val (.int lo),.val (.int hi_),.val (.int v21),.val (.long x27),.second]) (pc':=30) K d30_28 (by rcases f7 with ⟨rfl,rfl⟩|⟨_,rfl,rfl⟩<;>rfl) rfl ?_
 refine Yo 32 K d30_30 <|G6 33 K d30_32 ?_
 obtain ⟨v33,ev33⟩:=oE (XT.cmpL x27 ky : Int32)
 refine Y6 34 K d30_33 ev33 ?_
 refine H6 46 37 K d30_34 (fun c34=>?_) (fun c34=>?_)
 ·rw [(oLcmp ev33).1] at c34
  refine Yo 48 K d30_46 <|G6 49 K d30_48 ?_
  obtain ⟨v49,ev49⟩:=oE (XT.cmpL x27 ky : Int32)
  refine Y6 50 K d30_49 ev49 ?_
  refine Y2 62 53 K d30_50 (fun c50=>?_) (fun c50=>?_)
  ·rw [(oLcmp ev49).2.2] at c50
   refine Yb 64 K d30_62 ?_
   exact Yq K d30_64 ⟨_,rfl,_,v21.toInt.toNat,rfl,Or.inl (by omega),oBsEq hs g27 (by omega) (by omega),rfl⟩
  rw [(oLcmp ev49).2.2] at c50
  refine Yb 55 K d30_53 <|Yd 1 56 K d30_55 ?_
  obtain ⟨v56,ev56⟩:=oE (v21 - (1 : Int32) : Int32)
  refine Y9 57 K d30_56 ev56 ?_
  have tv56:=oIsub ev56 oOm
  try simp only [Int32.reduceToInt,Int64.reduceToInt] at tv56
  refine Yj 59 K d30_57 U6 <|Yi 65 K d30_59 <|Yi 8 K d30_65 ?_
  have hc:=c50
  exact IH8 (lo,v56,(.val (.int v21) : Slot),(.val (.long x27) : Slot),(.second : Slot)) (by dsimp only; exact ⟨by omega,by omega,by omega,f4,fun i x h1 h2 q=>oBsHi hs g27 hc i x (by omega) h2 q,Or.inr ⟨_,rfl⟩,Or.inr ⟨_,rfl,rfl⟩⟩) (by dsimp only; omega)
 rw [(oLcmp ev33).1] at c34
 refine Yb 39 K d30_37 <|Yd 1 40 K d30_39 ?_
 obtain ⟨v40,ev40⟩:=oE (v21 + (1 : Int32) : Int32)
 refine Y0 41 K d30_40 ev40 ?_
 have tv40:=oIadd ev40 oOm
 try simp only [Int32.reduceToInt,Int64.reduceToInt] at tv40
 refine Yj 43 K d30_41 U5 <|Yi 65 K d30_43 <|Yi 8 K d30_65 ?_
 have hc:=c34
 exact IH8 (v40,hi_,(.val (.int v21) : Slot),(.val (.long x27) : Slot),(.second : Slot)) (by dsimp only; exact ⟨by omega,by omega,by omega,fun i x h q=>oBsLo hs g27 (by omega) hc i x (by omega) q,f5,Or.inr ⟨_,rfl⟩,Or.inr ⟨_,rfl,rfl⟩⟩) (by dsimp only; omega)
abbrev e29 (n : Nat) := decode jdk_65_method_55_code n
theorem d29_0 : e29 0=.ok (.aload_n 0,1):=by decide +kernel
theorem d29_1 : e29 1=.ok (.arraylength,1):=by decide +kernel
theorem d29_2 : e29 2=.ok (.iload_n 1,1):=by decide +kernel
theorem d29_3 : e29 3=.ok (.iload_n 2,1):=by decide +kernel
theorem d29_4 : e29 4=.ok (.invokestatic 13,3):=by decide +kernel
theorem d29_7 : e29 7=.ok (.aload_n 0,1):=by decide +kernel
theorem d29_8 : e29 8=.ok (.iload_n 1,1):=by decide +kernel
theorem d29_9 : e29 9=.ok (.iload_n 2,1):=by decide +kernel
theorem d29_10 : e29 10=.ok (.lload_n 3,1):=by decide +kernel
theorem d29_11 : e29 11=.ok (.invokestatic 205,3):=by decide +kernel
theorem d29_14 : e29 14=.ok (.ireturn,1):=by decide +kernel
theorem pd_0 : parseMethodDescriptor "(III)V" = some ⟨[.int, .int, .int], none⟩ := by decide +kernel
theorem pd_1 : parseMethodDescriptor "([JIIJ)I" = some ⟨[(.array .long), .int, .int, .long], some .int⟩ := by decide +kernel
theorem own_bsJ (hw : oHw a0 Z) {ds0 : oDs} {ax : Addr} {ix : Nat} {xs : List Int64} {tn : Int32} {n : Nat} (hi : ds0[ix]?=some (ax,.inl (.long,xs.map .long))) (htn : tn.toInt=(n : Int)) (hn : n≤xs.length) (hxl : xs.length≤1000) (hs : oSrt xs n) {ky : Int64} :
  oCtr l Z h0 [] nM8 jdk_65_method_55_code 5 (some .int) (oR 1 0 0 24) #[.ref ax,.int 0,.int tn,.long ky] ds0 (oVal fun w d=>∃ (z : Int32) (r : Nat),w=.int z∧(z.toInt=(r : Int)∨z.toInt=-(r : Int) - 1)∧oCut xs n r ky.toInt∧d=ds0):=by
 refine oCo #[.val (.ref ax),.val (.int 0),.val (.int tn),.val (.long ky),.second] ?_
 intro p e s m below meth c K
 refine Ya 1 K d29_0 ?_
 obtain ⟨v1,ev1⟩:=oE (Int32.ofNat xs.length : Int32)
 refine oW.alen (i:=ix) (pc':=2) K d29_1 hi (ev1.trans (by rw [List.length_map])) rfl ?_
 refine Ye 3 K d29_2 <|Ye 4 K d29_3 ?_
 have tv1:=oNatI ev1 (by omega)
 refine Gu [.int v1,.int 0,.int tn] [] 0 0 0 7 K (hw 105) (hw 106) (hw 37) (hw 107) (own_rc @hw (by simp only [oLt32]; have:=oTs; omega) (by decide) (by simp only [oLt32]; omega)) (lenOf pd_0 rfl) d29_4 ?_
 rintro _ rfl
 refine Ya 8 K d29_7 <|Ye 9 K d29_8 <|Ye 10 K d29_9 <|G6 11 K d29_10 ?_
 refine Yk [.ref ax,.int 0,.int tn,.long ky] [] 0 0 0 14 K (hw 170) (hw 171) (hw 37) (hw 172) (own_bsJ0 @hw hi htn hn hxl hs) (lenOf pd_1 rfl) d29_11 ?_
 rintro _ _ ⟨z,r,rfl,hz,hcut,rfl⟩
 exact Yq K d29_14 ⟨_,rfl,_,r,rfl,hz,hcut,rfl⟩
abbrev e28 (n : Nat) := decode prog_6_method_4_code n
theorem d28_0 : e28 0=.ok (.aload_n 0,1):=by decide +kernel
theorem d28_1 : e28 1=.ok (.iconst 0,1):=by decide +kernel
theorem d28_2 : e28 2=.ok (.iload_n 1,1):=by decide +kernel
theorem d28_3 : e28 3=.ok (.iload_n 2,1):=by decide +kernel
theorem d28_4 : e28 4=.ok (.iconst 0,1):=by decide +kernel
theorem d28_5 : e28 5=.ok (.invokestatic 7,3):=by decide +kernel
theorem d28_8 : e28 8=.ok (.invokestatic 19,3):=by decide +kernel
theorem d28_11 : e28 11=.ok (.istore_n 3,1):=by decide +kernel
theorem d28_12 : e28 12=.ok (.iload_n 3,1):=by decide +kernel
theorem d28_13 : e28 13=.ok (.ifCond .lt 7,3):=by decide +kernel
theorem d28_16 : e28 16=.ok (.iload_n 3,1):=by decide +kernel
theorem d28_17 : e28 17=.ok (.goto 7,3):=by decide +kernel
theorem d28_20 : e28 20=.ok (.iload_n 3,1):=by decide +kernel
theorem d28_21 : e28 21=.ok (.ineg,1):=by decide +kernel
theorem d28_22 : e28 22=.ok (.iconst 1,1):=by decide +kernel
theorem d28_23 : e28 23=.ok (.isub,1):=by decide +kernel
theorem d28_24 : e28 24=.ok (.ireturn,1):=by decide +kernel
theorem pd_2 : parseMethodDescriptor "(II)J" = some ⟨[.int, .int], some .long⟩ := by decide +kernel
theorem own_first (hw : oHw a0 Z) {ds0 : oDs} {ax : Addr} {ix : Nat} {xs : List Int64} {tn : Int32} {n : Nat} (hi : ds0[ix]?=some (ax,.inl (.long,xs.map .long))) (htn : tn.toInt=(n : Int)) (hn : n≤xs.length) (hxl : xs.length≤1000) (hs : oSrt xs n) {po : Int32} (hpo : 0≤po.toInt) :
  oCtr l Z h0 [] nM9 prog_6_method_4_code 4 (some .int) (oR 2 0 0 44) #[.ref ax,.int tn,.int po] ds0 (oVal fun w d=>∃ (z : Int32) (r : Nat),w=.int z∧z.toInt=(r : Int)∧oCut xs n r (po.toInt * 4294967296)∧d=ds0):=by
 refine oCo #[.val (.ref ax),.val (.int tn),.val (.int po),.unset] ?_
 intro p e s m below meth c K
 refine Ya 1 K d28_0 <|Yd 0 2 K d28_1 <|Ye 3 K d28_2 <|Ye 4 K d28_3 <|Yd 0 5 K d28_4 ?_
 refine Yk [.int po,.int 0] [.int tn,.int 0,.ref ax] 3 0 0 8 K (hw 88) (hw 89) (hw 86) (hw 90) (own_of @hw hpo (by decide)) (lenOf pd_2 rfl) d28_5 ?_
 rintro _ _ ⟨kz,rfl,hkz,rfl⟩
 have hkz' : kz.toInt=po.toInt * 4294967296:=by have:=oTs.1; omega
 refine Yk [.ref ax,.int 0,.int tn,.long kz] [] 0 0 0 11 K (hw 167) (hw 168) (hw 37) (hw 169) (own_bsJ @hw hi htn hn hxl hs) (lenOf pd_1 rfl) d28_8 ?_
 rintro _ _ ⟨z,r,rfl,hz,hcut,rfl⟩
 rw [hkz'] at hcut
 have hrn:=hcut.1
 refine Yz 12 K d28_11 U3 <|Ye 13 K d28_12 ?_
 refine H7 20 16 K d28_13 (fun c13=>?_) (fun c13=>?_)
 ·simp only [oLt32,oEq32,Int32.reduceToInt] at c13
  refine Ye 21 K d28_20 ?_
  obtain ⟨v21,ev21⟩:=oE (-z : Int32)
  refine Ht 22 K d28_21 ev21 ?_
  have tv21:=oIneg ev21 (by omega)
  refine Yd 1 23 K d28_22 ?_
  obtain ⟨v23,ev23⟩:=oE (v21 - (1 : Int32) : Int32)
  refine Y9 24 K d28_23 ev23 ?_
  have tv23:=oIsub ev23 oOm
  try simp only [Int32.reduceToInt,Int64.reduceToInt] at tv23
  exact Yq K d28_24 ⟨_,rfl,_,r,rfl,by have:=oTs; omega,hcut,rfl⟩
 simp only [oLt32,oEq32,Int32.reduceToInt] at c13
 refine Ye 17 K d28_16 <|Yi 24 K d28_17 ?_
 exact Yq K d28_24 ⟨_,rfl,_,r,rfl,by have:=oTs; omega,hcut,rfl⟩
abbrev e25 (n : Nat) := decode prog_7_method_10_code n
theorem d25_0 : e25 0=.ok (.iconst 0,1):=by decide +kernel
theorem d25_1 : e25 1=.ok (.istore_n 1,1):=by decide +kernel
theorem d25_2 : e25 2=.ok (.iload_n 1,1):=by decide +kernel
theorem d25_3 : e25 3=.ok (.aload_n 0,1):=by decide +kernel
theorem d25_4 : e25 4=.ok (.getfield 143,3):=by decide +kernel
theorem d25_7 : e25 7=.ok (.if_icmp .ge 24,3):=by decide +kernel
theorem d25_10 : e25 10=.ok (.aload_n 0,1):=by decide +kernel
theorem d25_11 : e25 11=.ok (.getfield 50,3):=by decide +kernel
theorem d25_14 : e25 14=.ok (.aload_n 0,1):=by decide +kernel
theorem d25_15 : e25 15=.ok (.getfield 19,3):=by decide +kernel
theorem d25_18 : e25 18=.ok (.iload_n 1,1):=by decide +kernel
theorem d25_19 : e25 19=.ok (.laload,1):=by decide +kernel
theorem d25_20 : e25 20=.ok (.invokestatic 137,3):=by decide +kernel
theorem d25_23 : e25 23=.ok (.iconst 0,1):=by decide +kernel
theorem d25_24 : e25 24=.ok (.iastore,1):=by decide +kernel
theorem d25_25 : e25 25=.ok (.iinc 1 1,3):=by decide +kernel
theorem d25_28 : e25 28=.ok (.goto (-26),3):=by decide +kernel
theorem d25_31 : e25 31=.ok (.aload_n 0,1):=by decide +kernel
theorem d25_32 : e25 32=.ok (.iconst 0,1):=by decide +kernel
theorem d25_33 : e25 33=.ok (.putfield 146,3):=by decide +kernel
theorem d25_36 : e25 36=.ok (.aload_n 0,1):=by decide +kernel
theorem d25_37 : e25 37=.ok (.iconst 0,1):=by decide +kernel
theorem d25_38 : e25 38=.ok (.putfield 143,3):=by decide +kernel
theorem d25_41 : e25 41=.ok (.aload_n 0,1):=by decide +kernel
theorem d25_42 : e25 42=.ok (.iconst 0,1):=by decide +kernel
theorem d25_43 : e25 43=.ok (.putfield 149,3):=by decide +kernel
theorem d25_46 : e25 46=.ok (.return_,1):=by decide +kernel
theorem oLd_0 {Z : State} {a0 : Array Value} (hw : oHw a0 Z) : ∀ f ∈ ([("com/example/term_proximity_ranking/termproximityranking/bm25/SpanCovers", "occurrences", "[J", .null), ("com/example/term_proximity_ranking/termproximityranking/bm25/SpanCovers", "farthest", "[I", .null), ("com/example/term_proximity_ranking/termproximityranking/bm25/SpanCovers", "read", "[J", .null), ("com/example/term_proximity_ranking/termproximityranking/bm25/SpanCovers", "coverLengths", "[I", .null), ("com/example/term_proximity_ranking/termproximityranking/bm25/SpanCovers", "merged", "[Z", .null), ("com/example/term_proximity_ranking/termproximityranking/bm25/SpanCovers", "mergedWords", "[I", .null), ("com/example/term_proximity_ranking/termproximityranking/bm25/SpanCovers", "ranks", "[I", .null), ("com/example/term_proximity_ranking/termproximityranking/bm25/SpanCovers", "words", "[I", .null), ("com/example/term_proximity_ranking/termproximityranking/bm25/SpanCovers", "positions", "[[I", .null), ("com/example/term_proximity_ranking/termproximityranking/bm25/SpanCovers", "kept", "[I", .null), ("com/example/term_proximity_ranking/termproximityranking/bm25/SpanCovers", "wordCount", "I", (.int 0)), ("com/example/term_proximity_ranking/termproximityranking/bm25/SpanCovers", "anchors", "[I", .null), ("com/example/term_proximity_ranking/termproximityranking/bm25/SpanCovers", "mergedCount", "I", (.int 0)), ("com/example/term_proximity_ranking/termproximityranking/bm25/SpanCovers", "occurrenceCount", "I", (.int 0)), ("com/example/term_proximity_ranking/termproximityranking/bm25/SpanCovers", "documentLength", "I", (.int 0)), ("com/example/term_proximity_ranking/termproximityranking/bm25/SpanCovers", "widened", "I", (.int 0)), ("com/example/term_proximity_ranking/termproximityranking/bm25/SpanCovers", "coverCount", "I", (.int 0)), ("com/example/term_proximity_ranking/termproximityranking/bm25/SpanCovers", "readCount", "I", (.int 0)), ("com/example/term_proximity_ranking/termproximityranking/bm25/SpanCovers", "held", "I", (.int 0)), ("com/example/term_proximity_ranking/termproximityranking/bm25/SpanCovers", "earliest", "I", (.int 0))] : List (String × String × String × Value)), Laid Z a0 "com/example/term_proximity_ranking/termproximityranking/bm25/SpanCovers" f.1 f.2.1 f.2.2.1 ∧ ∃ t, parseFieldDescriptor f.2.2.1 = some t ∧ f.2.2.2 = defaultValue t := by
    intro f hf
    simp only [List.mem_cons, List.not_mem_nil, or_false] at hf
    rcases hf with rfl | rfl | rfl | rfl | rfl | rfl | rfl | rfl | rfl | rfl | rfl | rfl | rfl | rfl | rfl | rfl | rfl | rfl | rfl | rfl
    · exact ⟨Or.inl (hw 20), (.array .long), (by decide : parseFieldDescriptor "[J" = some (.array .long)), rfl⟩
    · exact ⟨Or.inl (hw 22), (.array .int), (by decide : parseFieldDescriptor "[I" = some (.array .int)), rfl⟩
    · exact ⟨Or.inl (hw 24), (.array .long), (by decide : parseFieldDescriptor "[J" = some (.array .long)), rfl⟩
    · exact ⟨Or.inl (hw 26), (.array .int), (by decide : parseFieldDescriptor "[I" = some (.array .int)), rfl⟩
    · exact ⟨Or.inr (hw 29), (.array .boolean), (by decide : parseFieldDescriptor "[Z" = some (.array .boolean)), rfl⟩
    · exact ⟨Or.inr (hw 31), (.array .int), (by decide : parseFieldDescriptor "[I" = some (.array .int)), rfl⟩
    · exact ⟨Or.inr (hw 33), (.array .int), (by decide : parseFieldDescriptor "[I" = some (.array .int)), rfl⟩
    · exact ⟨Or.inr (hw 40), (.array .int), (by decide : parseFieldDescriptor "[I" = some (.array .int)), rfl⟩
    · exact ⟨Or.inr (hw 44), (.array (.array .int)), (by decide : parseFieldDescriptor "[[I" = some (.array (.array .int))), rfl⟩
    · exact ⟨Or.inr (hw 46), (.array .int), (by decide : parseFieldDescriptor "[I" = some (.array .int)), rfl⟩
    · exact ⟨Or.inl (hw 58), .int, (by decide : parseFieldDescriptor "I" = some .int), rfl⟩
    · exact ⟨Or.inl (hw 60), (.array .int), (by decide : parseFieldDescriptor "[I" = some (.array .int)), rfl⟩
    · exact ⟨Or.inl (hw 62), .int, (by decide : parseFieldDescriptor "I" = some .int), rfl⟩
    · exact ⟨Or.inl (hw 64), .int, (by decide : parseFieldDescriptor "I" = some .int), rfl⟩
    · exact ⟨Or.inl (hw 66), .int, (by decide : parseFieldDescriptor "I" = some .int), rfl⟩
    · exact ⟨Or.inl (hw 92), .int, (by decide : parseFieldDescriptor "I" = some .int), rfl⟩
    · exact ⟨Or.inl (hw 144), .int, (by decide : parseFieldDescriptor "I" = some .int), rfl⟩
    · exact ⟨Or.inl (hw 150), .int, (by decide : parseFieldDescriptor "I" = some .int), rfl⟩
    · exact ⟨Or.inl (hw 152), .int, (by decide : parseFieldDescriptor "I" = some .int), rfl⟩
    · exact ⟨Or.inl (hw 154), .int, (by decide : parseFieldDescriptor "I" = some .int), rfl⟩
theorem oAp_0 {Z : State} {a0 : Array Value} (hw : oHw a0 Z) {y0 y1 y2 y3 y4 y5 y6 y7 y8 y9 y10 y11 y12 y13 y14 y15 y16 y17 y18 y19 : Value} : oApart Z [("com/example/term_proximity_ranking/termproximityranking/bm25/SpanCovers", "occurrences", "[J", y0), ("com/example/term_proximity_ranking/termproximityranking/bm25/SpanCovers", "farthest", "[I", y1), ("com/example/term_proximity_ranking/termproximityranking/bm25/SpanCovers", "read", "[J", y2), ("com/example/term_proximity_ranking/termproximityranking/bm25/SpanCovers", "coverLengths", "[I", y3), ("com/example/term_proximity_ranking/termproximityranking/bm25/SpanCovers", "merged", "[Z", y4), ("com/example/term_proximity_ranking/termproximityranking/bm25/SpanCovers", "mergedWords", "[I", y5), ("com/example/term_proximity_ranking/termproximityranking/bm25/SpanCovers", "ranks", "[I", y6), ("com/example/term_proximity_ranking/termproximityranking/bm25/SpanCovers", "words", "[I", y7), ("com/example/term_proximity_ranking/termproximityranking/bm25/SpanCovers", "positions", "[[I", y8), ("com/example/term_proximity_ranking/termproximityranking/bm25/SpanCovers", "kept", "[I", y9), ("com/example/term_proximity_ranking/termproximityranking/bm25/SpanCovers", "wordCount", "I", y10), ("com/example/term_proximity_ranking/termproximityranking/bm25/SpanCovers", "anchors", "[I", y11), ("com/example/term_proximity_ranking/termproximityranking/bm25/SpanCovers", "mergedCount", "I", y12), ("com/example/term_proximity_ranking/termproximityranking/bm25/SpanCovers", "occurrenceCount", "I", y13), ("com/example/term_proximity_ranking/termproximityranking/bm25/SpanCovers", "documentLength", "I", y14), ("com/example/term_proximity_ranking/termproximityranking/bm25/SpanCovers", "widened", "I", y15), ("com/example/term_proximity_ranking/termproximityranking/bm25/SpanCovers", "coverCount", "I", y16), ("com/example/term_proximity_ranking/termproximityranking/bm25/SpanCovers", "readCount", "I", y17), ("com/example/term_proximity_ranking/termproximityranking/bm25/SpanCovers", "held", "I", y18), ("com/example/term_proximity_ranking/termproximityranking/bm25/SpanCovers", "earliest", "I", y19)] := by
  refine oApart.of (C := "com/example/term_proximity_ranking/termproximityranking/bm25/SpanCovers") (a0 := a0) (fun f hf => ?_) (by show (["occurrences", "farthest", "read", "coverLengths", "merged", "mergedWords", "ranks", "words", "positions", "kept", "wordCount", "anchors", "mergedCount", "occurrenceCount", "documentLength", "widened", "coverCount", "readCount", "held", "earliest"] : List String).Nodup; decide)
  · simp only [List.mem_cons, List.not_mem_nil, or_false] at hf
    rcases hf with rfl | rfl | rfl | rfl | rfl | rfl | rfl | rfl | rfl | rfl | rfl | rfl | rfl | rfl | rfl | rfl | rfl | rfl | rfl | rfl
    · exact ⟨Or.inl (hw 20), (.array .long), (by decide : parseFieldDescriptor "[J" = some (.array .long))⟩
    · exact ⟨Or.inl (hw 22), (.array .int), (by decide : parseFieldDescriptor "[I" = some (.array .int))⟩
    · exact ⟨Or.inl (hw 24), (.array .long), (by decide : parseFieldDescriptor "[J" = some (.array .long))⟩
    · exact ⟨Or.inl (hw 26), (.array .int), (by decide : parseFieldDescriptor "[I" = some (.array .int))⟩
    · exact ⟨Or.inr (hw 29), (.array .boolean), (by decide : parseFieldDescriptor "[Z" = some (.array .boolean))⟩
    · exact ⟨Or.inr (hw 31), (.array .int), (by decide : parseFieldDescriptor "[I" = some (.array .int))⟩
    · exact ⟨Or.inr (hw 33), (.array .int), (by decide : parseFieldDescriptor "[I" = some (.array .int))⟩
    · exact ⟨Or.inr (hw 40), (.array .int), (by decide : parseFieldDescriptor "[I" = some (.array .int))⟩
    · exact ⟨Or.inr (hw 44), (.array (.array .int)), (by decide : parseFieldDescriptor "[[I" = some (.array (.array .int)))⟩
    · exact ⟨Or.inr (hw 46), (.array .int), (by decide : parseFieldDescriptor "[I" = some (.array .int))⟩
    · exact ⟨Or.inl (hw 58), .int, (by decide : parseFieldDescriptor "I" = some .int)⟩
    · exact ⟨Or.inl (hw 60), (.array .int), (by decide : parseFieldDescriptor "[I" = some (.array .int))⟩
    · exact ⟨Or.inl (hw 62), .int, (by decide : parseFieldDescriptor "I" = some .int)⟩
    · exact ⟨Or.inl (hw 64), .int, (by decide : parseFieldDescriptor "I" = some .int)⟩
    · exact ⟨Or.inl (hw 66), .int, (by decide : parseFieldDescriptor "I" = some .int)⟩
    · exact ⟨Or.inl (hw 92), .int, (by decide : parseFieldDescriptor "I" = some .int)⟩
    · exact ⟨Or.inl (hw 144), .int, (by decide : parseFieldDescriptor "I" = some .int)⟩
    · exact ⟨Or.inl (hw 150), .int, (by decide : parseFieldDescriptor "I" = some .int)⟩
    · exact ⟨Or.inl (hw 152), .int, (by decide : parseFieldDescriptor "I" = some .int)⟩
    · exact ⟨Or.inl (hw 154), .int, (by decide : parseFieldDescriptor "I" = some .int)⟩
theorem pd_3 : parseMethodDescriptor "(J)I" = some ⟨[.long], some .int⟩ := by decide +kernel
theorem own_restart (hw : oHw a0 Z) {D0 D1 D2 D4 D5 D6 D7 D8 D10 D12 D13 : oDsc} {f_wc f_an f_mc f_cn f_dl f_wi f_cc f_hd f_ea : Value} {rds : List Int64} {n : Nat} {rc k0 k1 k2 : Int32} (hrc : rc.toInt=(n : Int)) (hrl : rds.length≤1000) (hE : oEnt rds n 1) (hk0 : oKp rds n k0 0) (hk1 : oKp rds n k1 1) (hk2 : k2.toInt=0) :
  oCtr l Z h0 [] nM10 prog_7_method_10_code 2 none (oR 1 0 0 16) #[.ref b3] [(b0,D0),(b1,D1),(b2,D2),(b3,oP b10 b13 b11 b12 b4 b5 b6 b7 b8 b9 f_wc f_an f_mc f_cn f_dl f_wi f_cc (.int rc) f_hd f_ea),(b4,D4),(b5,D5),(b6,D6),(b7,D7),(b8,D8),(b9,.inl (.int,[.int k0,.int k1,.int k2])),(b10,D10),(b11,.inl (.long,(rds.map Value.long))),(b12,D12),(b13,D13)] (oVoid fun d=>d=[(b0,D0),(b1,D1),(b2,D2),(b3,oP b10 b13 b11 b12 b4 b5 b6 b7 b8 b9 f_wc f_an f_mc f_cn f_dl f_wi f_cc (.int 0) (.int 0) (.int 0)),(b4,D4),(b5,D5),(b6,D6),(b7,D7),(b8,D8),(b9,.inl (.int,[.int 0,.int 0,.int 0])),(b10,D10),(b11,.inl (.long,(rds.map Value.long))),(b12,D12),(b13,D13)]):=by
 refine oCo #[.val (.ref b3),.unset] ?_
 intro p e s m below meth c K
 have hE1:=hE.1
 refine Yd 0 1 K d25_0 ?_
 refine Yz 2 K d25_1 U1 ?_
 refine oW.loop (F:=fun z : Int32 × Int32 × Int32 × Int32=>0≤z.1.toInt∧z.1.toInt≤n∧oKx rds z.1.toInt z.2.1 k0 0∧oKx rds z.1.toInt z.2.2.1 k1 1∧z.2.2.2.toInt=0) (mu:=fun z=>n - z.1.toInt.toNat) (pcj:=2) (Lf:=fun z=>#[.val (.ref b3),.val (.int z.1)]) (Sf:=fun z=>[]) (dsf:=fun z=>[(b0,D0),(b1,D1),(b2,D2),(b3,oP b10 b13 b11 b12 b4 b5 b6 b7 b8 b9 f_wc f_an f_mc f_cn f_dl f_wi f_cc (.int rc) f_hd f_ea),(b4,D4),(b5,D5),(b6,D6),(b7,D7),(b8,D8),(b9,.inl (.int,[(.int z.2.1),(.int z.2.2.1),(.int z.2.2.2)])),(b10,D10),(b11,.inl (.long,(rds.map Value.long))),(b12,D12),(b13,D13)]) ?_ ((0 : Int32),k0,k1,k2) (by dsimp only; have:=oTs; exact ⟨by decide,by omega,Or.inr ⟨rfl,fun j x h=>absurd h (by omega)⟩,Or.inr ⟨rfl,fun j x h=>absurd h (by omega)⟩,hk2⟩)
 rintro ⟨ii,x0,x1,x2⟩ hF2 IH2
 dsimp only at hF2 IH2 ⊢
 obtain ⟨f1,f2,g1,g2,g3⟩:=hF2
 refine Ye 3 K d25_2 <|Ya 4 K d25_3 <|Yc 3 17 7 K (hw 149) d25_4 ?_
 refine Gm 31 10 K d25_7 (fun c7=>?_) (fun c7=>?_)
 ·simp only [oLt32,oEq32,Int32.reduceToInt] at c7
  obtain rfl : x0=(0 : Int32):=g1.zero hk0 (by omega)
  obtain rfl : x1=(0 : Int32):=g2.zero hk1 (by omega)
  obtain rfl : x2=(0 : Int32):=oEq32.mpr (by rw [g3]; decide)
  refine Ya 32 K d25_31 <|Yd 0 33 K d25_32 ?_
  refine Yl 3 18 .int 36 K (hw 151) (Or.inl (hw 152)) (hw 10) (oAp_0 @hw) d25_33 rfl rfl (P3 F18) <|Ya 37 K d25_36 <|Yd 0 38 K d25_37 ?_
  refine Yl 3 17 .int 41 K (hw 149) (Or.inl (hw 150)) (hw 10) (oAp_0 @hw) d25_38 rfl rfl (P3 F17) <|Ya 42 K d25_41 <|Yd 0 43 K d25_42 ?_
  refine Yl 3 19 .int 46 K (hw 153) (Or.inl (hw 154)) (hw 10) (oAp_0 @hw) d25_43 rfl rfl (P3 F19) ?_
  exact Ga K d25_46 ⟨rfl,rfl⟩
 simp only [oLt32,oEq32,Int32.reduceToInt] at c7
 refine Ya 11 K d25_10 <|Yc 3 9 14 K (hw 45) d25_11 <|Ya 15 K d25_14 <|Yc 3 2 18 K (hw 23) d25_15 <|Ye 19 K d25_18 ?_
 obtain ⟨x19,g19⟩:=oHas (xs:=rds) (k:=ii.toInt.toNat) (by have:=hE.1; omega)
 obtain ⟨pp,ww,e1,e2,e3,e4,e5⟩:=hE.2 _ _ (by omega) g19
 refine oW.laloadJ (i:=11) (k:=ii.toInt.toNat) (pc':=20) K d25_19 rfl (oIdx (by omega)) (by omega) g19 rfl ?_
 refine Yk [.long x19] [.ref b9] 1 0 0 23 K (hw 176) (hw 177) (hw 86) (hw 178) (own_word @hw e1 ⟨e4,by omega⟩) (lenOf pd_3 rfl) d25_20 ?_
 rintro _ _ ⟨wz,rfl,twz,rfl⟩
 have hwz : wz=0∨wz=1:=by simp only [oEq32,Int32.reduceToInt]; omega
 rcases hwz with hwz|hwz
 ·subst hwz
  have twz' : ww=0:=by have:=oTs; omega
  refine Yd 0 24 K d25_23 ?_
  refine Yr 9 0 25 K d25_24 rfl (S9 T0) ?_
  obtain ⟨v25,ev25⟩:=oE (ii + Int32.ofInt 1 : Int32)
  refine G1 28 K d25_25 ev25 U1 ?_
  have tv25:=oIncK ev25 (by decide) (by omega)
  refine Yi 2 K d25_28 ?_
  exact IH2 (v25,(0 : Int32),x1,x2) (by dsimp only; exact ⟨by omega,by omega,Or.inl (by decide),g2.step g19 (by omega) (by omega) (fun p=>by omega),g3⟩) (by dsimp only; omega)
 subst hwz
 have twz' : ww=1:=by have:=oTs; omega
 refine Yd 0 24 K d25_23 ?_
 refine Yr 9 1 25 K d25_24 rfl (S9 T1) ?_
 obtain ⟨v25,ev25⟩:=oE (ii + Int32.ofInt 1 : Int32)
 refine G1 28 K d25_25 ev25 U1 ?_
 have tv25:=oIncK ev25 (by decide) (by omega)
 refine Yi 2 K d25_28 ?_
 exact IH2 (v25,x0,(0 : Int32),x2) (by dsimp only; exact ⟨by omega,by omega,g1.step g19 (by omega) (by omega) (fun p=>by omega),Or.inl (by decide),g3⟩) (by dsimp only; omega)
abbrev e33 (n : Nat) := decode prog_7_method_11_code n
theorem d33_0 : e33 0=.ok (.aload_n 0,1):=by decide +kernel
theorem d33_1 : e33 1=.ok (.getfield 19,3):=by decide +kernel
theorem d33_4 : e33 4=.ok (.aload_n 0,1):=by decide +kernel
theorem d33_5 : e33 5=.ok (.dup,1):=by decide +kernel
theorem d33_6 : e33 6=.ok (.getfield 143,3):=by decide +kernel
theorem d33_9 : e33 9=.ok (.dup_x1,1):=by decide +kernel
theorem d33_10 : e33 10=.ok (.iconst 1,1):=by decide +kernel
theorem d33_11 : e33 11=.ok (.iadd,1):=by decide +kernel
theorem d33_12 : e33 12=.ok (.putfield 143,3):=by decide +kernel
theorem d33_15 : e33 15=.ok (.iload_n 1,1):=by decide +kernel
theorem d33_16 : e33 16=.ok (.iload_n 2,1):=by decide +kernel
theorem d33_17 : e33 17=.ok (.invokestatic 152,3):=by decide +kernel
theorem d33_20 : e33 20=.ok (.lastore,1):=by decide +kernel
theorem d33_21 : e33 21=.ok (.aload_n 0,1):=by decide +kernel
theorem d33_22 : e33 22=.ok (.getfield 50,3):=by decide +kernel
theorem d33_25 : e33 25=.ok (.iload_n 2,1):=by decide +kernel
theorem d33_26 : e33 26=.ok (.iaload,1):=by decide +kernel
theorem d33_27 : e33 27=.ok (.ifCond .ne 13,3):=by decide +kernel
theorem d33_30 : e33 30=.ok (.aload_n 0,1):=by decide +kernel
theorem d33_31 : e33 31=.ok (.dup,1):=by decide +kernel
theorem d33_32 : e33 32=.ok (.getfield 146,3):=by decide +kernel
theorem d33_35 : e33 35=.ok (.iconst 1,1):=by decide +kernel
theorem d33_36 : e33 36=.ok (.iadd,1):=by decide +kernel
theorem d33_37 : e33 37=.ok (.putfield 146,3):=by decide +kernel
theorem d33_40 : e33 40=.ok (.aload_n 0,1):=by decide +kernel
theorem d33_41 : e33 41=.ok (.getfield 50,3):=by decide +kernel
theorem d33_44 : e33 44=.ok (.iload_n 2,1):=by decide +kernel
theorem d33_45 : e33 45=.ok (.iload_n 1,1):=by decide +kernel
theorem d33_46 : e33 46=.ok (.iastore,1):=by decide +kernel
theorem d33_47 : e33 47=.ok (.aload_n 0,1):=by decide +kernel
theorem d33_48 : e33 48=.ok (.getfield 146,3):=by decide +kernel
theorem d33_51 : e33 51=.ok (.aload_n 0,1):=by decide +kernel
theorem d33_52 : e33 52=.ok (.getfield 66,3):=by decide +kernel
theorem d33_55 : e33 55=.ok (.if_icmp .ge 5,3):=by decide +kernel
theorem d33_58 : e33 58=.ok (.iconst 0,1):=by decide +kernel
theorem d33_59 : e33 59=.ok (.ireturn,1):=by decide +kernel
theorem d33_60 : e33 60=.ok (.aload_n 0,1):=by decide +kernel
theorem d33_61 : e33 61=.ok (.getfield 50,3):=by decide +kernel
theorem d33_64 : e33 64=.ok (.aload_n 0,1):=by decide +kernel
theorem d33_65 : e33 65=.ok (.getfield 19,3):=by decide +kernel
theorem d33_68 : e33 68=.ok (.aload_n 0,1):=by decide +kernel
theorem d33_69 : e33 69=.ok (.getfield 149,3):=by decide +kernel
theorem d33_72 : e33 72=.ok (.laload,1):=by decide +kernel
theorem d33_73 : e33 73=.ok (.invokestatic 137,3):=by decide +kernel
theorem d33_76 : e33 76=.ok (.iaload,1):=by decide +kernel
theorem d33_77 : e33 77=.ok (.aload_n 0,1):=by decide +kernel
theorem d33_78 : e33 78=.ok (.getfield 19,3):=by decide +kernel
theorem d33_81 : e33 81=.ok (.aload_n 0,1):=by decide +kernel
theorem d33_82 : e33 82=.ok (.getfield 149,3):=by decide +kernel
theorem d33_85 : e33 85=.ok (.laload,1):=by decide +kernel
theorem d33_86 : e33 86=.ok (.invokestatic 133,3):=by decide +kernel
theorem d33_89 : e33 89=.ok (.if_icmp .eq 16,3):=by decide +kernel
theorem d33_92 : e33 92=.ok (.aload_n 0,1):=by decide +kernel
theorem d33_93 : e33 93=.ok (.dup,1):=by decide +kernel
theorem d33_94 : e33 94=.ok (.getfield 149,3):=by decide +kernel
theorem d33_97 : e33 97=.ok (.iconst 1,1):=by decide +kernel
theorem d33_98 : e33 98=.ok (.iadd,1):=by decide +kernel
theorem d33_99 : e33 99=.ok (.putfield 149,3):=by decide +kernel
theorem d33_102 : e33 102=.ok (.goto (-42),3):=by decide +kernel
theorem d33_105 : e33 105=.ok (.iload_n 1,1):=by decide +kernel
theorem d33_106 : e33 106=.ok (.aload_n 0,1):=by decide +kernel
theorem d33_107 : e33 107=.ok (.getfield 19,3):=by decide +kernel
theorem d33_110 : e33 110=.ok (.aload_n 0,1):=by decide +kernel
theorem d33_111 : e33 111=.ok (.getfield 149,3):=by decide +kernel
theorem d33_114 : e33 114=.ok (.laload,1):=by decide +kernel
theorem d33_115 : e33 115=.ok (.invokestatic 133,3):=by decide +kernel
theorem d33_118 : e33 118=.ok (.isub,1):=by decide +kernel
theorem d33_119 : e33 119=.ok (.iconst 1,1):=by decide +kernel
theorem d33_120 : e33 120=.ok (.iadd,1):=by decide +kernel
theorem d33_121 : e33 121=.ok (.istore 5,2):=by decide +kernel
theorem d33_123 : e33 123=.ok (.iload 5,2):=by decide +kernel
theorem d33_125 : e33 125=.ok (.i2d,1):=by decide +kernel
theorem d33_126 : e33 126=.ok (.dload_n 3,1):=by decide +kernel
theorem d33_127 : e33 127=.ok (.dcmp .l,1):=by decide +kernel
theorem d33_128 : e33 128=.ok (.ifCond .le 5,3):=by decide +kernel
theorem d33_131 : e33 131=.ok (.iconst 0,1):=by decide +kernel
theorem d33_132 : e33 132=.ok (.ireturn,1):=by decide +kernel
theorem d33_133 : e33 133=.ok (.aload_n 0,1):=by decide +kernel
theorem d33_134 : e33 134=.ok (.getfield 22,3):=by decide +kernel
theorem d33_137 : e33 137=.ok (.aload_n 0,1):=by decide +kernel
theorem d33_138 : e33 138=.ok (.dup,1):=by decide +kernel
theorem d33_139 : e33 139=.ok (.getfield 102,3):=by decide +kernel
theorem d33_142 : e33 142=.ok (.dup_x1,1):=by decide +kernel
theorem d33_143 : e33 143=.ok (.iconst 1,1):=by decide +kernel
theorem d33_144 : e33 144=.ok (.iadd,1):=by decide +kernel
theorem d33_145 : e33 145=.ok (.putfield 102,3):=by decide +kernel
theorem d33_148 : e33 148=.ok (.iload 5,2):=by decide +kernel
theorem d33_150 : e33 150=.ok (.iastore,1):=by decide +kernel
theorem d33_151 : e33 151=.ok (.aload_n 0,1):=by decide +kernel
theorem d33_152 : e33 152=.ok (.invokevirtual 114,3):=by decide +kernel
theorem d33_155 : e33 155=.ok (.iconst 1,1):=by decide +kernel
theorem d33_156 : e33 156=.ok (.ireturn,1):=by decide +kernel
theorem pd_4 : parseMethodDescriptor "()V" = some ⟨[], none⟩ := by decide +kernel
theorem own_read0 (hw : oHw a0 Z) {D0 D1 D2 D4 D5 D6 D7 D8 D10 D13 : oDsc} {f_an f_mc f_cn f_dl f_wi : Value} {po : Int32} {wv : UInt64} (hpo : 1≤po.toInt) {rds : List Int64} {cvs : List Value} {n : Nat} {rc hd ea cc k0 k1 k2 : Int32} (hrs : oRS rds n rc ea k0 k1 k2) (hrl : n < rds.length∧rds.length≤1000) (hcc : 0≤cc.toInt∧cc.toInt < (cvs.length : Int)∧cvs.length≤1000) :
  oCtr l Z h0 [] nM11 prog_7_method_11_code 6 (some .boolean) (oR 2 0 0 32) #[.ref b3,.int po,.int 0,.double wv] [(b0,D0),(b1,D1),(b2,D2),(b3,oP b10 b13 b11 b12 b4 b5 b6 b7 b8 b9 (.int 2) f_an f_mc f_cn f_dl f_wi (.int cc) (.int rc) (.int hd) (.int ea)),(b4,D4),(b5,D5),(b6,D6),(b7,D7),(b8,D8),(b9,.inl (.int,[.int k0,.int k1,.int k2])),(b10,D10),(b11,.inl (.long,(rds.map Value.long))),(b12,.inl (.int,cvs)),(b13,D13)] (oVal fun w d=>∃ (rds' : List Int64) (cvs' : List Value) (rc' hd' ea' cc' k0' k1' k2' z : Int32),w=.int z∧d=[(b0,D0),(b1,D1),(b2,D2),(b3,oP b10 b13 b11 b12 b4 b5 b6 b7 b8 b9 (.int 2) f_an f_mc f_cn f_dl f_wi (.int cc') (.int rc') (.int hd') (.int ea')),(b4,D4),(b5,D5),(b6,D6),(b7,D7),(b8,D8),(b9,.inl (.int,[.int k0',.int k1',.int k2'])),(b10,D10),(b11,.inl (.long,(rds'.map Value.long))),(b12,.inl (.int,cvs')),(b13,D13)]∧rds'.length=rds.length∧cvs'.length=cvs.length∧((z=0∧cc=cc'∧oRS rds' (n + 1) rc' ea' k0' k1' k2')∨(z=1∧cc'.toInt=cc.toInt + 1∧oRS rds' 0 rc' ea' k0' k1' k2'))):=by
 refine oCo #[.val (.ref b3),.val (.int po),.val (.int 0),.val (.double wv),.second,.unset] ?_
 intro p e s m below meth c K
 obtain ⟨hrc,hea0,hea1,hE,hk0,hk1,hk2⟩:=hrs
 have hE1:=hE.1
 have bpo:=oB32 po
 refine Ya 1 K d33_0 <|Yc 3 2 4 K (hw 23) d33_1 <|Ya 5 K d33_4 ?_
 refine Yv 6 K d33_5 <|Yc 3 17 9 K (hw 149) d33_6 ?_
 refine Gg 10 K d33_9 <|Yd 1 11 K d33_10 ?_
 obtain ⟨v11,ev11⟩:=oE (rc + (1 : Int32) : Int32)
 refine Y0 12 K d33_11 ev11 ?_
 have tv11:=oIadd ev11 oOm
 try simp only [Int32.reduceToInt,Int64.reduceToInt] at tv11
 refine Yl 3 17 .int 15 K (hw 149) (Or.inl (hw 150)) (hw 10) (oAp_0 @hw) d33_12 rfl rfl (P3 F17) <|Ye 16 K d33_15 <|Ye 17 K d33_16 ?_
 refine Yk [.int po,.int 0] [.int rc,.ref b11] 2 0 0 20 K (hw 183) (hw 89) (hw 86) (hw 90) (own_of @hw (by omega) (by decide)) (lenOf pd_2 rfl) d33_17 ?_
 rintro _ _ ⟨x17,rfl,tx17,rfl⟩
 have tx17' : x17.toInt=po.toInt * 4294967296 + 0:=by have:=oTs; omega
 have hE':=hE.set (x:=x17) (by omega) tx17' (by have:=oB32 po; omega) (by decide)
 refine oW.lastoreJ (i:=11) (k:=n) (ds':=[(b0,D0),(b1,D1),(b2,D2),(b3,oP b10 b13 b11 b12 b4 b5 b6 b7 b8 b9 (.int 2) f_an f_mc f_cn f_dl f_wi (.int cc) (.int v11) (.int hd) (.int ea)),(b4,D4),(b5,D5),(b6,D6),(b7,D7),(b8,D8),(b9,.inl (.int,[.int k0,.int k1,.int k2])),(b10,D10),(b11,.inl (.long,((rds.set n x17).map Value.long))),(b12,.inl (.int,cvs)),(b13,D13)]) (pc':=21) K d33_20 rfl (oIdxN hrc) (by omega) (by omega) rfl rfl ?_
 refine Ya 22 K d33_21 <|Yc 3 9 25 K (hw 45) d33_22 <|Ye 26 K d33_25 <|Yn 9 0 27 K d33_26 ?_
 refine Hu 40 30 K d33_27 (fun c27=>?_) (fun c27=>?_)
 ·simp only [oLt32,oEq32,Int32.reduceToInt] at c27
  refine Ya 41 K d33_40 <|Yc 3 9 44 K (hw 45) d33_41 <|Ye 45 K d33_44 <|Ye 46 K d33_45 ?_
  refine Yr 9 0 47 K d33_46 rfl (S9 T0) ?_
  have hK0 : oKp (rds.set n x17) (n + 1) po 0:=oKp.new (by omega) tx17'
  have hK1 : oKp (rds.set n x17) (n + 1) k1 1:=hk1.set
  refine Ya 48 K d33_47 <|Yc 3 18 51 K (hw 151) d33_48 <|Ya 52 K d33_51 <|Yc 3 10 55 K (hw 57) d33_52 ?_
  refine Gm 60 58 K d33_55 (fun c55=>?_) (fun c55=>?_)
  ·simp only [oLt32,oEq32,Int32.reduceToInt] at c55
   refine oW.loop (F:=fun z : Int32=>0≤z.toInt∧z.toInt≤n) (mu:=fun z=>n - z.toInt.toNat) (pcj:=60) (Lf:=fun z=>#[.val (.ref b3),.val (.int po),.val (.int 0),.val (.double wv),.second,.unset]) (Sf:=fun z=>[]) (dsf:=fun z=>[(b0,D0),(b1,D1),(b2,D2),(b3,oP b10 b13 b11 b12 b4 b5 b6 b7 b8 b9 (.int 2) f_an f_mc f_cn f_dl f_wi (.int cc) (.int v11) (.int hd) (.int z)),(b4,D4),(b5,D5),(b6,D6),(b7,D7),(b8,D8),(b9,.inl (.int,[.int po,.int k1,.int k2])),(b10,D10),(b11,.inl (.long,((rds.set n x17).map Value.long))),(b12,.inl (.int,cvs)),(b13,D13)]) ?_ ea ⟨by omega,by omega⟩
   rintro ee hF60 IH60
   obtain ⟨f1,f2⟩:=hF60
   refine Ya 61 K d33_60 <|Yc 3 9 64 K (hw 45) d33_61 <|Ya 65 K d33_64 <|Yc 3 2 68 K (hw 23) d33_65 <|Ya 69 K d33_68 <|Yc 3 19 72 K (hw 153) d33_69 ?_
   obtain ⟨x72,g72⟩:=oHas (xs:=rds.set n x17) (k:=ee.toInt.toNat) (by rw [List.length_set]; omega)
   obtain ⟨pp72,ww72,e1_72,e2_72,e3_72,e4_72,e5_72⟩:=hE'.2 _ _ (by omega) g72
   refine oW.laloadJ (i:=11) (k:=ee.toInt.toNat) (pc':=73) K d33_72 rfl (oIdx (by omega)) (by omega) g72 rfl ?_
   refine Yk [.long x72] [.ref b9] 1 0 0 76 K (hw 176) (hw 177) (hw 86) (hw 178) (own_word @hw e1_72 ⟨e4_72,by omega⟩) (lenOf pd_3 rfl) d33_73 ?_
   rintro _ _ ⟨wz,rfl,twz,rfl⟩
   have hwz : wz=0∨wz=1:=by simp only [oEq32,Int32.reduceToInt]; omega
   rcases hwz with hwz|hwz
   ·subst hwz
    have twz' : ww72=0:=by have:=oTs; omega
    refine Yn 9 0 77 K d33_76 <|Ya 78 K d33_77 <|Yc 3 2 81 K (hw 23) d33_78 <|Ya 82 K d33_81 <|Yc 3 19 85 K (hw 153) d33_82 ?_
    obtain ⟨x85,g85⟩:=oHas (xs:=rds.set n x17) (k:=ee.toInt.toNat) (by rw [List.length_set]; omega)
    obtain ⟨pp85,ww85,e1_85,e2_85,e3_85,e4_85,e5_85⟩:=hE'.2 _ _ (by omega) g85
    refine oW.laloadJ (i:=11) (k:=ee.toInt.toNat) (pc':=86) K d33_85 rfl (oIdx (by omega)) (by omega) g85 rfl ?_
    refine Yk [.long x85] [.int po] 1 0 0 89 K (hw 173) (hw 174) (hw 86) (hw 175) (own_position @hw e1_85 ⟨by omega,e3_85⟩ ⟨e4_85,by omega⟩) (lenOf pd_3 rfl) d33_86 ?_
    rintro _ _ ⟨pz,rfl,tpz,rfl⟩
    refine G9 105 92 K d33_89 (fun c89=>?_) (fun c89=>?_)
    ·simp only [oLt32,oEq32,Int32.reduceToInt] at c89
     refine Ye 106 K d33_105 <|Ya 107 K d33_106 <|Yc 3 2 110 K (hw 23) d33_107 <|Ya 111 K d33_110 <|Yc 3 19 114 K (hw 153) d33_111 ?_
     obtain ⟨x114,g114⟩:=oHas (xs:=rds.set n x17) (k:=ee.toInt.toNat) (by rw [List.length_set]; omega)
     obtain ⟨pp114,ww114,e1_114,e2_114,e3_114,e4_114,e5_114⟩:=hE'.2 _ _ (by omega) g114
     refine oW.laloadJ (i:=11) (k:=ee.toInt.toNat) (pc':=115) K d33_114 rfl (oIdx (by omega)) (by omega) g114 rfl ?_
     refine Yk [.long x114] [.int po] 1 0 0 118 K (hw 173) (hw 174) (hw 86) (hw 175) (own_position @hw e1_114 ⟨by omega,e3_114⟩ ⟨e4_114,by omega⟩) (lenOf pd_3 rfl) d33_115 ?_
     rintro _ _ ⟨pw,rfl,tpw,rfl⟩
     obtain ⟨v118,ev118⟩:=oE (po - pw : Int32)
     refine Y9 119 K d33_118 ev118 ?_
     have tv118:=oIsub ev118 oOm
     try simp only [Int32.reduceToInt,Int64.reduceToInt] at tv118
     refine Yd 1 120 K d33_119 ?_
     obtain ⟨v120,ev120⟩:=oE (v118 + (1 : Int32) : Int32)
     refine Y0 121 K d33_120 ev120 ?_
     have tv120:=oIadd ev120 oOm
     try simp only [Int32.reduceToInt,Int64.reduceToInt] at tv120
     refine Yj 123 K d33_121 U5 <|Yb 125 K d33_123 ?_
     obtain ⟨v125,ev125⟩:=oE (FP.i2d v120 : UInt64)
     refine Gh 126 K d33_125 ev125 <|Y1 127 K d33_126 ?_
     obtain ⟨v127,ev127⟩:=oE (cmpValue (FP.dcmp v125 wv) .l : Int32)
     refine Gi 128 K d33_127 ev127 ?_
     refine Y2 133 131 K d33_128 (fun c128=>?_) (fun c128=>?_)
     ·refine Ya 134 K d33_133 <|Yc 3 3 137 K (hw 25) d33_134 <|Ya 138 K d33_137 ?_
      refine Yv 139 K d33_138 <|Yc 3 16 142 K (hw 143) d33_139 ?_
      refine Gg 143 K d33_142 <|Yd 1 144 K d33_143 ?_
      obtain ⟨v144,ev144⟩:=oE (cc + (1 : Int32) : Int32)
      refine Y0 145 K d33_144 ev144 ?_
      have tv144:=oIadd ev144 oOm
      try simp only [Int32.reduceToInt,Int64.reduceToInt] at tv144
      refine Yl 3 16 .int 148 K (hw 143) (Or.inl (hw 144)) (hw 10) (oAp_0 @hw) d33_145 rfl rfl (P3 F16) <|Yb 150 K d33_148 ?_
      refine oW.iastore (i:=12) (k:=cc.toInt.toNat) (ds':=[(b0,D0),(b1,D1),(b2,D2),(b3,oP b10 b13 b11 b12 b4 b5 b6 b7 b8 b9 (.int 2) f_an f_mc f_cn f_dl f_wi (.int v144) (.int v11) (.int hd) (.int ee)),(b4,D4),(b5,D5),(b6,D6),(b7,D7),(b8,D8),(b9,.inl (.int,[.int po,.int k1,.int k2])),(b10,D10),(b11,.inl (.long,((rds.set n x17).map Value.long))),(b12,.inl (.int,(cvs.set cc.toInt.toNat (.int v120)))),(b13,D13)]) (pc':=151) K d33_150 rfl (oIdx (by omega)) (by omega) (by omega) rfl rfl ?_
      refine Ya 152 K d33_151 ?_
      refine Ge b3 nM12 [] [] 0 0 0 155 K (hw 145) (hw 147) (hw 50) (hw 146) (hw 148) (hw 11) (own_restart @hw (n:=n + 1) (by omega) (by rw [List.length_set]; omega) hE' hK0 hK1 hk2) (lenOf pd_4 rfl) d33_152 ?_
      rintro _ rfl
      refine Yd 1 156 K d33_155 ?_
      exact Y5 K d33_156 ⟨_,rfl,_,_,_,_,_,_,_,_,_,_,rfl,rfl,by simp,by simp,Or.inr ⟨rfl,by omega,oRS.z⟩⟩
     refine Yd 0 132 K d33_131 ?_
     exact Y5 K d33_132 ⟨_,rfl,_,_,_,_,_,_,_,_,_,_,rfl,rfl,by simp,rfl,Or.inl ⟨rfl,rfl,by omega,by omega,by omega,hE',hK0,hK1,hk2⟩⟩
    simp only [oLt32,oEq32,Int32.reduceToInt] at c89
    refine Ya 93 K d33_92 ?_
    refine Yv 94 K d33_93 <|Yc 3 19 97 K (hw 153) d33_94 <|Yd 1 98 K d33_97 ?_
    obtain ⟨v98,ev98⟩:=oE (ee + (1 : Int32) : Int32)
    refine Y0 99 K d33_98 ev98 ?_
    have tv98:=oIadd ev98 oOm
    try simp only [Int32.reduceToInt,Int64.reduceToInt] at tv98
    refine Yl 3 19 .int 102 K (hw 153) (Or.inl (hw 154)) (hw 10) (oAp_0 @hw) d33_99 rfl rfl (P3 F19) <|Yi 60 K d33_102 ?_
    have hne : ee.toInt ≠ n:=fun q=>by have a1:=g72; have a2:=g85; rw [show ee.toInt.toNat=n by omega,oSetAt (by omega)] at a1 a2; have b1:=Option.some.inj a1; have b2:=Option.some.inj a2; subst b1; subst b2; omega
    exact IH60 v98 ⟨by omega,by omega⟩ (by omega)
   subst hwz
   have twz' : ww72=1:=by have:=oTs; omega
   refine Yn 9 1 77 K d33_76 <|Ya 78 K d33_77 <|Yc 3 2 81 K (hw 23) d33_78 <|Ya 82 K d33_81 <|Yc 3 19 85 K (hw 153) d33_82 ?_
   obtain ⟨x85,g85⟩:=oHas (xs:=rds.set n x17) (k:=ee.toInt.toNat) (by rw [List.length_set]; omega)
   obtain ⟨pp85,ww85,e1_85,e2_85,e3_85,e4_85,e5_85⟩:=hE'.2 _ _ (by omega) g85
   refine oW.laloadJ (i:=11) (k:=ee.toInt.toNat) (pc':=86) K d33_85 rfl (oIdx (by omega)) (by omega) g85 rfl ?_
   refine Yk [.long x85] [.int k1] 1 0 0 89 K (hw 173) (hw 174) (hw 86) (hw 175) (own_position @hw e1_85 ⟨by omega,e3_85⟩ ⟨e4_85,by omega⟩) (lenOf pd_3 rfl) d33_86 ?_
   rintro _ _ ⟨pz,rfl,tpz,rfl⟩
   refine G9 105 92 K d33_89 (fun c89=>?_) (fun c89=>?_)
   ·simp only [oLt32,oEq32,Int32.reduceToInt] at c89
    refine Ye 106 K d33_105 <|Ya 107 K d33_106 <|Yc 3 2 110 K (hw 23) d33_107 <|Ya 111 K d33_110 <|Yc 3 19 114 K (hw 153) d33_111 ?_
    obtain ⟨x114,g114⟩:=oHas (xs:=rds.set n x17) (k:=ee.toInt.toNat) (by rw [List.length_set]; omega)
    obtain ⟨pp114,ww114,e1_114,e2_114,e3_114,e4_114,e5_114⟩:=hE'.2 _ _ (by omega) g114
    refine oW.laloadJ (i:=11) (k:=ee.toInt.toNat) (pc':=115) K d33_114 rfl (oIdx (by omega)) (by omega) g114 rfl ?_
    refine Yk [.long x114] [.int po] 1 0 0 118 K (hw 173) (hw 174) (hw 86) (hw 175) (own_position @hw e1_114 ⟨by omega,e3_114⟩ ⟨e4_114,by omega⟩) (lenOf pd_3 rfl) d33_115 ?_
    rintro _ _ ⟨pw,rfl,tpw,rfl⟩
    obtain ⟨v118,ev118⟩:=oE (po - pw : Int32)
    refine Y9 119 K d33_118 ev118 ?_
    have tv118:=oIsub ev118 oOm
    try simp only [Int32.reduceToInt,Int64.reduceToInt] at tv118
    refine Yd 1 120 K d33_119 ?_
    obtain ⟨v120,ev120⟩:=oE (v118 + (1 : Int32) : Int32)
    refine Y0 121 K d33_120 ev120 ?_
    have tv120:=oIadd ev120 oOm
    try simp only [Int32.reduceToInt,Int64.reduceToInt] at tv120
    refine Yj 123 K d33_121 U5 <|Yb 125 K d33_123 ?_
    obtain ⟨v125,ev125⟩:=oE (FP.i2d v120 : UInt64)
    refine Gh 126 K d33_125 ev125 <|Y1 127 K d33_126 ?_
    obtain ⟨v127,ev127⟩:=oE (cmpValue (FP.dcmp v125 wv) .l : Int32)
    refine Gi 128 K d33_127 ev127 ?_
    refine Y2 133 131 K d33_128 (fun c128=>?_) (fun c128=>?_)
    ·refine Ya 134 K d33_133 <|Yc 3 3 137 K (hw 25) d33_134 <|Ya 138 K d33_137 ?_
     refine Yv 139 K d33_138 <|Yc 3 16 142 K (hw 143) d33_139 ?_
     refine Gg 143 K d33_142 <|Yd 1 144 K d33_143 ?_
     obtain ⟨v144,ev144⟩:=oE (cc + (1 : Int32) : Int32)
     refine Y0 145 K d33_144 ev144 ?_
     have tv144:=oIadd ev144 oOm
     try simp only [Int32.reduceToInt,Int64.reduceToInt] at tv144
     refine Yl 3 16 .int 148 K (hw 143) (Or.inl (hw 144)) (hw 10) (oAp_0 @hw) d33_145 rfl rfl (P3 F16) <|Yb 150 K d33_148 ?_
     refine oW.iastore (i:=12) (k:=cc.toInt.toNat) (ds':=[(b0,D0),(b1,D1),(b2,D2),(b3,oP b10 b13 b11 b12 b4 b5 b6 b7 b8 b9 (.int 2) f_an f_mc f_cn f_dl f_wi (.int v144) (.int v11) (.int hd) (.int ee)),(b4,D4),(b5,D5),(b6,D6),(b7,D7),(b8,D8),(b9,.inl (.int,[.int po,.int k1,.int k2])),(b10,D10),(b11,.inl (.long,((rds.set n x17).map Value.long))),(b12,.inl (.int,(cvs.set cc.toInt.toNat (.int v120)))),(b13,D13)]) (pc':=151) K d33_150 rfl (oIdx (by omega)) (by omega) (by omega) rfl rfl ?_
     refine Ya 152 K d33_151 ?_
     refine Ge b3 nM12 [] [] 0 0 0 155 K (hw 145) (hw 147) (hw 50) (hw 146) (hw 148) (hw 11) (own_restart @hw (n:=n + 1) (by omega) (by rw [List.length_set]; omega) hE' hK0 hK1 hk2) (lenOf pd_4 rfl) d33_152 ?_
     rintro _ rfl
     refine Yd 1 156 K d33_155 ?_
     exact Y5 K d33_156 ⟨_,rfl,_,_,_,_,_,_,_,_,_,_,rfl,rfl,by simp,by simp,Or.inr ⟨rfl,by omega,oRS.z⟩⟩
    refine Yd 0 132 K d33_131 ?_
    exact Y5 K d33_132 ⟨_,rfl,_,_,_,_,_,_,_,_,_,_,rfl,rfl,by simp,rfl,Or.inl ⟨rfl,rfl,by omega,by omega,by omega,hE',hK0,hK1,hk2⟩⟩
   simp only [oLt32,oEq32,Int32.reduceToInt] at c89
   refine Ya 93 K d33_92 ?_
   refine Yv 94 K d33_93 <|Yc 3 19 97 K (hw 153) d33_94 <|Yd 1 98 K d33_97 ?_
   obtain ⟨v98,ev98⟩:=oE (ee + (1 : Int32) : Int32)
   refine Y0 99 K d33_98 ev98 ?_
   have tv98:=oIadd ev98 oOm
   try simp only [Int32.reduceToInt,Int64.reduceToInt] at tv98
   refine Yl 3 19 .int 102 K (hw 153) (Or.inl (hw 154)) (hw 10) (oAp_0 @hw) d33_99 rfl rfl (P3 F19) <|Yi 60 K d33_102 ?_
   have hne : ee.toInt ≠ n:=fun q=>by have a1:=g72; have a2:=g85; rw [show ee.toInt.toNat=n by omega,oSetAt (by omega)] at a1 a2; have b1:=Option.some.inj a1; have b2:=Option.some.inj a2; subst b1; subst b2; omega
   exact IH60 v98 ⟨by omega,by omega⟩ (by omega)
  simp only [oLt32,oEq32,Int32.reduceToInt] at c55
  refine Yd 0 59 K d33_58 ?_
  exact Y5 K d33_59 ⟨_,rfl,_,_,_,_,_,_,_,_,_,_,rfl,rfl,by simp,rfl,Or.inl ⟨rfl,rfl,by omega,by omega,by omega,hE',hK0,hK1,hk2⟩⟩
 simp only [oLt32,oEq32,Int32.reduceToInt] at c27
 refine Ya 31 K d33_30 ?_
 refine Yv 32 K d33_31 <|Yc 3 18 35 K (hw 151) d33_32 <|Yd 1 36 K d33_35 ?_
 obtain ⟨v36,ev36⟩:=oE (hd + (1 : Int32) : Int32)
 refine Y0 37 K d33_36 ev36 ?_
 refine Yl 3 18 .int 40 K (hw 151) (Or.inl (hw 152)) (hw 10) (oAp_0 @hw) d33_37 rfl rfl (P3 F18) <|Ya 41 K d33_40 <|Yc 3 9 44 K (hw 45) d33_41 <|Ye 45 K d33_44 <|Ye 46 K d33_45 ?_
 refine Yr 9 0 47 K d33_46 rfl (S9 T0) ?_
 have hK0 : oKp (rds.set n x17) (n + 1) po 0:=oKp.new (by omega) tx17'
 have hK1 : oKp (rds.set n x17) (n + 1) k1 1:=hk1.set
 refine Ya 48 K d33_47 <|Yc 3 18 51 K (hw 151) d33_48 <|Ya 52 K d33_51 <|Yc 3 10 55 K (hw 57) d33_52 ?_
 refine Gm 60 58 K d33_55 (fun c55=>?_) (fun c55=>?_)
 ·simp only [oLt32,oEq32,Int32.reduceToInt] at c55
  refine oW.loop (F:=fun z : Int32=>0≤z.toInt∧z.toInt≤n) (mu:=fun z=>n - z.toInt.toNat) (pcj:=60) (Lf:=fun z=>#[.val (.ref b3),.val (.int po),.val (.int 0),.val (.double wv),.second,.unset]) (Sf:=fun z=>[]) (dsf:=fun z=>[(b0,D0),(b1,D1),(b2,D2),(b3,oP b10 b13 b11 b12 b4 b5 b6 b7 b8 b9 (.int 2) f_an f_mc f_cn f_dl f_wi (.int cc) (.int v11) (.int v36) (.int z)),(b4,D4),(b5,D5),(b6,D6),(b7,D7),(b8,D8),(b9,.inl (.int,[.int po,.int k1,.int k2])),(b10,D10),(b11,.inl (.long,((rds.set n x17).map Value.long))),(b12,.inl (.int,cvs)),(b13,D13)]) ?_ ea ⟨by omega,by omega⟩
  rintro ee hF60 IH60
  obtain ⟨f1,f2⟩:=hF60
  refine Ya 61 K d33_60 <|Yc 3 9 64 K (hw 45) d33_61 <|Ya 65 K d33_64 <|Yc 3 2 68 K (hw 23) d33_65 <|Ya 69 K d33_68 <|Yc 3 19 72 K (hw 153) d33_69 ?_
  obtain ⟨x72,g72⟩:=oHas (xs:=rds.set n x17) (k:=ee.toInt.toNat) (by rw [List.length_set]; omega)
  obtain ⟨pp72,ww72,e1_72,e2_72,e3_72,e4_72,e5_72⟩:=hE'.2 _ _ (by omega) g72
  refine oW.laloadJ (i:=11) (k:=ee.toInt.toNat) (pc':=73) K d33_72 rfl (oIdx (by omega)) (by omega) g72 rfl ?_
  refine Yk [.long x72] [.ref b9] 1 0 0 76 K (hw 176) (hw 177) (hw 86) (hw 178) (own_word @hw e1_72 ⟨e4_72,by omega⟩) (lenOf pd_3 rfl) d33_73 ?_
  rintro _ _ ⟨wz,rfl,twz,rfl⟩
  have hwz : wz=0∨wz=1:=by simp only [oEq32,Int32.reduceToInt]; omega
  rcases hwz with hwz|hwz
  ·subst hwz
   have twz' : ww72=0:=by have:=oTs; omega
   refine Yn 9 0 77 K d33_76 <|Ya 78 K d33_77 <|Yc 3 2 81 K (hw 23) d33_78 <|Ya 82 K d33_81 <|Yc 3 19 85 K (hw 153) d33_82 ?_
   obtain ⟨x85,g85⟩:=oHas (xs:=rds.set n x17) (k:=ee.toInt.toNat) (by rw [List.length_set]; omega)
   obtain ⟨pp85,ww85,e1_85,e2_85,e3_85,e4_85,e5_85⟩:=hE'.2 _ _ (by omega) g85
   refine oW.laloadJ (i:=11) (k:=ee.toInt.toNat) (pc':=86) K d33_85 rfl (oIdx (by omega)) (by omega) g85 rfl ?_
   refine Yk [.long x85] [.int po] 1 0 0 89 K (hw 173) (hw 174) (hw 86) (hw 175) (own_position @hw e1_85 ⟨by omega,e3_85⟩ ⟨e4_85,by omega⟩) (lenOf pd_3 rfl) d33_86 ?_
   rintro _ _ ⟨pz,rfl,tpz,rfl⟩
   refine G9 105 92 K d33_89 (fun c89=>?_) (fun c89=>?_)
   ·simp only [oLt32,oEq32,Int32.reduceToInt] at c89
    refine Ye 106 K d33_105 <|Ya 107 K d33_106 <|Yc 3 2 110 K (hw 23) d33_107 <|Ya 111 K d33_110 <|Yc 3 19 114 K (hw 153) d33_111 ?_
    obtain ⟨x114,g114⟩:=oHas (xs:=rds.set n x17) (k:=ee.toInt.toNat) (by rw [List.length_set]; omega)
    obtain ⟨pp114,ww114,e1_114,e2_114,e3_114,e4_114,e5_114⟩:=hE'.2 _ _ (by omega) g114
    refine oW.laloadJ (i:=11) (k:=ee.toInt.toNat) (pc':=115) K d33_114 rfl (oIdx (by omega)) (by omega) g114 rfl ?_
    refine Yk [.long x114] [.int po] 1 0 0 118 K (hw 173) (hw 174) (hw 86) (hw 175) (own_position @hw e1_114 ⟨by omega,e3_114⟩ ⟨e4_114,by omega⟩) (lenOf pd_3 rfl) d33_115 ?_
    rintro _ _ ⟨pw,rfl,tpw,rfl⟩
    obtain ⟨v118,ev118⟩:=oE (po - pw : Int32)
    refine Y9 119 K d33_118 ev118 ?_
    have tv118:=oIsub ev118 oOm
    try simp only [Int32.reduceToInt,Int64.reduceToInt] at tv118
    refine Yd 1 120 K d33_119 ?_
    obtain ⟨v120,ev120⟩:=oE (v118 + (1 : Int32) : Int32)
    refine Y0 121 K d33_120 ev120 ?_
    have tv120:=oIadd ev120 oOm
    try simp only [Int32.reduceToInt,Int64.reduceToInt] at tv120
    refine Yj 123 K d33_121 U5 <|Yb 125 K d33_123 ?_
    obtain ⟨v125,ev125⟩:=oE (FP.i2d v120 : UInt64)
    refine Gh 126 K d33_125 ev125 <|Y1 127 K d33_126 ?_
    obtain ⟨v127,ev127⟩:=oE (cmpValue (FP.dcmp v125 wv) .l : Int32)
    refine Gi 128 K d33_127 ev127 ?_
    refine Y2 133 131 K d33_128 (fun c128=>?_) (fun c128=>?_)
    ·refine Ya 134 K d33_133 <|Yc 3 3 137 K (hw 25) d33_134 <|Ya 138 K d33_137 ?_
     refine Yv 139 K d33_138 <|Yc 3 16 142 K (hw 143) d33_139 ?_
     refine Gg 143 K d33_142 <|Yd 1 144 K d33_143 ?_
     obtain ⟨v144,ev144⟩:=oE (cc + (1 : Int32) : Int32)
     refine Y0 145 K d33_144 ev144 ?_
     have tv144:=oIadd ev144 oOm
     try simp only [Int32.reduceToInt,Int64.reduceToInt] at tv144
     refine Yl 3 16 .int 148 K (hw 143) (Or.inl (hw 144)) (hw 10) (oAp_0 @hw) d33_145 rfl rfl (P3 F16) <|Yb 150 K d33_148 ?_
     refine oW.iastore (i:=12) (k:=cc.toInt.toNat) (ds':=[(b0,D0),(b1,D1),(b2,D2),(b3,oP b10 b13 b11 b12 b4 b5 b6 b7 b8 b9 (.int 2) f_an f_mc f_cn f_dl f_wi (.int v144) (.int v11) (.int v36) (.int ee)),(b4,D4),(b5,D5),(b6,D6),(b7,D7),(b8,D8),(b9,.inl (.int,[.int po,.int k1,.int k2])),(b10,D10),(b11,.inl (.long,((rds.set n x17).map Value.long))),(b12,.inl (.int,(cvs.set cc.toInt.toNat (.int v120)))),(b13,D13)]) (pc':=151) K d33_150 rfl (oIdx (by omega)) (by omega) (by omega) rfl rfl ?_
     refine Ya 152 K d33_151 ?_
     refine Ge b3 nM12 [] [] 0 0 0 155 K (hw 145) (hw 147) (hw 50) (hw 146) (hw 148) (hw 11) (own_restart @hw (n:=n + 1) (by omega) (by rw [List.length_set]; omega) hE' hK0 hK1 hk2) (lenOf pd_4 rfl) d33_152 ?_
     rintro _ rfl
     refine Yd 1 156 K d33_155 ?_
     exact Y5 K d33_156 ⟨_,rfl,_,_,_,_,_,_,_,_,_,_,rfl,rfl,by simp,by simp,Or.inr ⟨rfl,by omega,oRS.z⟩⟩
    refine Yd 0 132 K d33_131 ?_
    exact Y5 K d33_132 ⟨_,rfl,_,_,_,_,_,_,_,_,_,_,rfl,rfl,by simp,rfl,Or.inl ⟨rfl,rfl,by omega,by omega,by omega,hE',hK0,hK1,hk2⟩⟩
   simp only [oLt32,oEq32,Int32.reduceToInt] at c89
   refine Ya 93 K d33_92 ?_
   refine Yv 94 K d33_93 <|Yc 3 19 97 K (hw 153) d33_94 <|Yd 1 98 K d33_97 ?_
   obtain ⟨v98,ev98⟩:=oE (ee + (1 : Int32) : Int32)
   refine Y0 99 K d33_98 ev98 ?_
   have tv98:=oIadd ev98 oOm
   try simp only [Int32.reduceToInt,Int64.reduceToInt] at tv98
   refine Yl 3 19 .int 102 K (hw 153) (Or.inl (hw 154)) (hw 10) (oAp_0 @hw) d33_99 rfl rfl (P3 F19) <|Yi 60 K d33_102 ?_
   have hne : ee.toInt ≠ n:=fun q=>by have a1:=g72; have a2:=g85; rw [show ee.toInt.toNat=n by omega,oSetAt (by omega)] at a1 a2; have b1:=Option.some.inj a1; have b2:=Option.some.inj a2; subst b1; subst b2; omega
   exact IH60 v98 ⟨by omega,by omega⟩ (by omega)
  subst hwz
  have twz' : ww72=1:=by have:=oTs; omega
  refine Yn 9 1 77 K d33_76 <|Ya 78 K d33_77 <|Yc 3 2 81 K (hw 23) d33_78 <|Ya 82 K d33_81 <|Yc 3 19 85 K (hw 153) d33_82 ?_
  obtain ⟨x85,g85⟩:=oHas (xs:=rds.set n x17) (k:=ee.toInt.toNat) (by rw [List.length_set]; omega)
  obtain ⟨pp85,ww85,e1_85,e2_85,e3_85,e4_85,e5_85⟩:=hE'.2 _ _ (by omega) g85
  refine oW.laloadJ (i:=11) (k:=ee.toInt.toNat) (pc':=86) K d33_85 rfl (oIdx (by omega)) (by omega) g85 rfl ?_
  refine Yk [.long x85] [.int k1] 1 0 0 89 K (hw 173) (hw 174) (hw 86) (hw 175) (own_position @hw e1_85 ⟨by omega,e3_85⟩ ⟨e4_85,by omega⟩) (lenOf pd_3 rfl) d33_86 ?_
  rintro _ _ ⟨pz,rfl,tpz,rfl⟩
  refine G9 105 92 K d33_89 (fun c89=>?_) (fun c89=>?_)
  ·simp only [oLt32,oEq32,Int32.reduceToInt] at c89
   refine Ye 106 K d33_105 <|Ya 107 K d33_106 <|Yc 3 2 110 K (hw 23) d33_107 <|Ya 111 K d33_110 <|Yc 3 19 114 K (hw 153) d33_111 ?_
   obtain ⟨x114,g114⟩:=oHas (xs:=rds.set n x17) (k:=ee.toInt.toNat) (by rw [List.length_set]; omega)
   obtain ⟨pp114,ww114,e1_114,e2_114,e3_114,e4_114,e5_114⟩:=hE'.2 _ _ (by omega) g114
   refine oW.laloadJ (i:=11) (k:=ee.toInt.toNat) (pc':=115) K d33_114 rfl (oIdx (by omega)) (by omega) g114 rfl ?_
   refine Yk [.long x114] [.int po] 1 0 0 118 K (hw 173) (hw 174) (hw 86) (hw 175) (own_position @hw e1_114 ⟨by omega,e3_114⟩ ⟨e4_114,by omega⟩) (lenOf pd_3 rfl) d33_115 ?_
   rintro _ _ ⟨pw,rfl,tpw,rfl⟩
   obtain ⟨v118,ev118⟩:=oE (po - pw : Int32)
   refine Y9 119 K d33_118 ev118 ?_
   have tv118:=oIsub ev118 oOm
   try simp only [Int32.reduceToInt,Int64.reduceToInt] at tv118
   refine Yd 1 120 K d33_119 ?_
   obtain ⟨v120,ev120⟩:=oE (v118 + (1 : Int32) : Int32)
   refine Y0 121 K d33_120 ev120 ?_
   have tv120:=oIadd ev120 oOm
   try simp only [Int32.reduceToInt,Int64.reduceToInt] at tv120
   refine Yj 123 K d33_121 U5 <|Yb 125 K d33_123 ?_
   obtain ⟨v125,ev125⟩:=oE (FP.i2d v120 : UInt64)
   refine Gh 126 K d33_125 ev125 <|Y1 127 K d33_126 ?_
   obtain ⟨v127,ev127⟩:=oE (cmpValue (FP.dcmp v125 wv) .l : Int32)
   refine Gi 128 K d33_127 ev127 ?_
   refine Y2 133 131 K d33_128 (fun c128=>?_) (fun c128=>?_)
   ·refine Ya 134 K d33_133 <|Yc 3 3 137 K (hw 25) d33_134 <|Ya 138 K d33_137 ?_
    refine Yv 139 K d33_138 <|Yc 3 16 142 K (hw 143) d33_139 ?_
    refine Gg 143 K d33_142 <|Yd 1 144 K d33_143 ?_
    obtain ⟨v144,ev144⟩:=oE (cc + (1 : Int32) : Int32)
    refine Y0 145 K d33_144 ev144 ?_
    have tv144:=oIadd ev144 oOm
    try simp only [Int32.reduceToInt,Int64.reduceToInt] at tv144
    refine Yl 3 16 .int 148 K (hw 143) (Or.inl (hw 144)) (hw 10) (oAp_0 @hw) d33_145 rfl rfl (P3 F16) <|Yb 150 K d33_148 ?_
    refine oW.iastore (i:=12) (k:=cc.toInt.toNat) (ds':=[(b0,D0),(b1,D1),(b2,D2),(b3,oP b10 b13 b11 b12 b4 b5 b6 b7 b8 b9 (.int 2) f_an f_mc f_cn f_dl f_wi (.int v144) (.int v11) (.int v36) (.int ee)),(b4,D4),(b5,D5),(b6,D6),(b7,D7),(b8,D8),(b9,.inl (.int,[.int po,.int k1,.int k2])),(b10,D10),(b11,.inl (.long,((rds.set n x17).map Value.long))),(b12,.inl (.int,(cvs.set cc.toInt.toNat (.int v120)))),(b13,D13)]) (pc':=151) K d33_150 rfl (oIdx (by omega)) (by omega) (by omega) rfl rfl ?_
    refine Ya 152 K d33_151 ?_
    refine Ge b3 nM12 [] [] 0 0 0 155 K (hw 145) (hw 147) (hw 50) (hw 146) (hw 148) (hw 11) (own_restart @hw (n:=n + 1) (by omega) (by rw [List.length_set]; omega) hE' hK0 hK1 hk2) (lenOf pd_4 rfl) d33_152 ?_
    rintro _ rfl
    refine Yd 1 156 K d33_155 ?_
    exact Y5 K d33_156 ⟨_,rfl,_,_,_,_,_,_,_,_,_,_,rfl,rfl,by simp,by simp,Or.inr ⟨rfl,by omega,oRS.z⟩⟩
   refine Yd 0 132 K d33_131 ?_
   exact Y5 K d33_132 ⟨_,rfl,_,_,_,_,_,_,_,_,_,_,rfl,rfl,by simp,rfl,Or.inl ⟨rfl,rfl,by omega,by omega,by omega,hE',hK0,hK1,hk2⟩⟩
  simp only [oLt32,oEq32,Int32.reduceToInt] at c89
  refine Ya 93 K d33_92 ?_
  refine Yv 94 K d33_93 <|Yc 3 19 97 K (hw 153) d33_94 <|Yd 1 98 K d33_97 ?_
  obtain ⟨v98,ev98⟩:=oE (ee + (1 : Int32) : Int32)
  refine Y0 99 K d33_98 ev98 ?_
  have tv98:=oIadd ev98 oOm
  try simp only [Int32.reduceToInt,Int64.reduceToInt] at tv98
  refine Yl 3 19 .int 102 K (hw 153) (Or.inl (hw 154)) (hw 10) (oAp_0 @hw) d33_99 rfl rfl (P3 F19) <|Yi 60 K d33_102 ?_
  have hne : ee.toInt ≠ n:=fun q=>by have a1:=g72; have a2:=g85; rw [show ee.toInt.toNat=n by omega,oSetAt (by omega)] at a1 a2; have b1:=Option.some.inj a1; have b2:=Option.some.inj a2; subst b1; subst b2; omega
  exact IH60 v98 ⟨by omega,by omega⟩ (by omega)
 simp only [oLt32,oEq32,Int32.reduceToInt] at c55
 refine Yd 0 59 K d33_58 ?_
 exact Y5 K d33_59 ⟨_,rfl,_,_,_,_,_,_,_,_,_,_,rfl,rfl,by simp,rfl,Or.inl ⟨rfl,rfl,by omega,by omega,by omega,hE',hK0,hK1,hk2⟩⟩
theorem own_read1 (hw : oHw a0 Z) {D0 D1 D2 D4 D5 D6 D7 D8 D10 D13 : oDsc} {f_an f_mc f_cn f_dl f_wi : Value} {po : Int32} {wv : UInt64} (hpo : 1≤po.toInt) {rds : List Int64} {cvs : List Value} {n : Nat} {rc hd ea cc k0 k1 k2 : Int32} (hrs : oRS rds n rc ea k0 k1 k2) (hrl : n < rds.length∧rds.length≤1000) (hcc : 0≤cc.toInt∧cc.toInt < (cvs.length : Int)∧cvs.length≤1000) :
  oCtr l Z h0 [] nM11 prog_7_method_11_code 6 (some .boolean) (oR 2 0 0 32) #[.ref b3,.int po,.int 1,.double wv] [(b0,D0),(b1,D1),(b2,D2),(b3,oP b10 b13 b11 b12 b4 b5 b6 b7 b8 b9 (.int 2) f_an f_mc f_cn f_dl f_wi (.int cc) (.int rc) (.int hd) (.int ea)),(b4,D4),(b5,D5),(b6,D6),(b7,D7),(b8,D8),(b9,.inl (.int,[.int k0,.int k1,.int k2])),(b10,D10),(b11,.inl (.long,(rds.map Value.long))),(b12,.inl (.int,cvs)),(b13,D13)] (oVal fun w d=>∃ (rds' : List Int64) (cvs' : List Value) (rc' hd' ea' cc' k0' k1' k2' z : Int32),w=.int z∧d=[(b0,D0),(b1,D1),(b2,D2),(b3,oP b10 b13 b11 b12 b4 b5 b6 b7 b8 b9 (.int 2) f_an f_mc f_cn f_dl f_wi (.int cc') (.int rc') (.int hd') (.int ea')),(b4,D4),(b5,D5),(b6,D6),(b7,D7),(b8,D8),(b9,.inl (.int,[.int k0',.int k1',.int k2'])),(b10,D10),(b11,.inl (.long,(rds'.map Value.long))),(b12,.inl (.int,cvs')),(b13,D13)]∧rds'.length=rds.length∧cvs'.length=cvs.length∧((z=0∧cc=cc'∧oRS rds' (n + 1) rc' ea' k0' k1' k2')∨(z=1∧cc'.toInt=cc.toInt + 1∧oRS rds' 0 rc' ea' k0' k1' k2'))):=by
 refine oCo #[.val (.ref b3),.val (.int po),.val (.int 1),.val (.double wv),.second,.unset] ?_
 intro p e s m below meth c K
 obtain ⟨hrc,hea0,hea1,hE,hk0,hk1,hk2⟩:=hrs
 have hE1:=hE.1
 have bpo:=oB32 po
 refine Ya 1 K d33_0 <|Yc 3 2 4 K (hw 23) d33_1 <|Ya 5 K d33_4 ?_
 refine Yv 6 K d33_5 <|Yc 3 17 9 K (hw 149) d33_6 ?_
 refine Gg 10 K d33_9 <|Yd 1 11 K d33_10 ?_
 obtain ⟨v11,ev11⟩:=oE (rc + (1 : Int32) : Int32)
 refine Y0 12 K d33_11 ev11 ?_
 have tv11:=oIadd ev11 oOm
 try simp only [Int32.reduceToInt,Int64.reduceToInt] at tv11
 refine Yl 3 17 .int 15 K (hw 149) (Or.inl (hw 150)) (hw 10) (oAp_0 @hw) d33_12 rfl rfl (P3 F17) <|Ye 16 K d33_15 <|Ye 17 K d33_16 ?_
 refine Yk [.int po,.int 1] [.int rc,.ref b11] 2 0 0 20 K (hw 183) (hw 89) (hw 86) (hw 90) (own_of @hw (by omega) (by decide)) (lenOf pd_2 rfl) d33_17 ?_
 rintro _ _ ⟨x17,rfl,tx17,rfl⟩
 have tx17' : x17.toInt=po.toInt * 4294967296 + 1:=by have:=oTs; omega
 have hE':=hE.set (x:=x17) (by omega) tx17' (by have:=oB32 po; omega) (by decide)
 refine oW.lastoreJ (i:=11) (k:=n) (ds':=[(b0,D0),(b1,D1),(b2,D2),(b3,oP b10 b13 b11 b12 b4 b5 b6 b7 b8 b9 (.int 2) f_an f_mc f_cn f_dl f_wi (.int cc) (.int v11) (.int hd) (.int ea)),(b4,D4),(b5,D5),(b6,D6),(b7,D7),(b8,D8),(b9,.inl (.int,[.int k0,.int k1,.int k2])),(b10,D10),(b11,.inl (.long,((rds.set n x17).map Value.long))),(b12,.inl (.int,cvs)),(b13,D13)]) (pc':=21) K d33_20 rfl (oIdxN hrc) (by omega) (by omega) rfl rfl ?_
 refine Ya 22 K d33_21 <|Yc 3 9 25 K (hw 45) d33_22 <|Ye 26 K d33_25 <|Yn 9 1 27 K d33_26 ?_
 refine Hu 40 30 K d33_27 (fun c27=>?_) (fun c27=>?_)
 ·simp only [oLt32,oEq32,Int32.reduceToInt] at c27
  refine Ya 41 K d33_40 <|Yc 3 9 44 K (hw 45) d33_41 <|Ye 45 K d33_44 <|Ye 46 K d33_45 ?_
  refine Yr 9 1 47 K d33_46 rfl (S9 T1) ?_
  have hK0 : oKp (rds.set n x17) (n + 1) k0 0:=hk0.set
  have hK1 : oKp (rds.set n x17) (n + 1) po 1:=oKp.new (by omega) tx17'
  refine Ya 48 K d33_47 <|Yc 3 18 51 K (hw 151) d33_48 <|Ya 52 K d33_51 <|Yc 3 10 55 K (hw 57) d33_52 ?_
  refine Gm 60 58 K d33_55 (fun c55=>?_) (fun c55=>?_)
  ·simp only [oLt32,oEq32,Int32.reduceToInt] at c55
   refine oW.loop (F:=fun z : Int32=>0≤z.toInt∧z.toInt≤n) (mu:=fun z=>n - z.toInt.toNat) (pcj:=60) (Lf:=fun z=>#[.val (.ref b3),.val (.int po),.val (.int 1),.val (.double wv),.second,.unset]) (Sf:=fun z=>[]) (dsf:=fun z=>[(b0,D0),(b1,D1),(b2,D2),(b3,oP b10 b13 b11 b12 b4 b5 b6 b7 b8 b9 (.int 2) f_an f_mc f_cn f_dl f_wi (.int cc) (.int v11) (.int hd) (.int z)),(b4,D4),(b5,D5),(b6,D6),(b7,D7),(b8,D8),(b9,.inl (.int,[.int k0,.int po,.int k2])),(b10,D10),(b11,.inl (.long,((rds.set n x17).map Value.long))),(b12,.inl (.int,cvs)),(b13,D13)]) ?_ ea ⟨by omega,by omega⟩
   rintro ee hF60 IH60
   obtain ⟨f1,f2⟩:=hF60
   refine Ya 61 K d33_60 <|Yc 3 9 64 K (hw 45) d33_61 <|Ya 65 K d33_64 <|Yc 3 2 68 K (hw 23) d33_65 <|Ya 69 K d33_68 <|Yc 3 19 72 K (hw 153) d33_69 ?_
   obtain ⟨x72,g72⟩:=oHas (xs:=rds.set n x17) (k:=ee.toInt.toNat) (by rw [List.length_set]; omega)
   obtain ⟨pp72,ww72,e1_72,e2_72,e3_72,e4_72,e5_72⟩:=hE'.2 _ _ (by omega) g72
   refine oW.laloadJ (i:=11) (k:=ee.toInt.toNat) (pc':=73) K d33_72 rfl (oIdx (by omega)) (by omega) g72 rfl ?_
   refine Yk [.long x72] [.ref b9] 1 0 0 76 K (hw 176) (hw 177) (hw 86) (hw 178) (own_word @hw e1_72 ⟨e4_72,by omega⟩) (lenOf pd_3 rfl) d33_73 ?_
   rintro _ _ ⟨wz,rfl,twz,rfl⟩
   have hwz : wz=0∨wz=1:=by simp only [oEq32,Int32.reduceToInt]; omega
   rcases hwz with hwz|hwz
   ·subst hwz
    have twz' : ww72=0:=by have:=oTs; omega
    refine Yn 9 0 77 K d33_76 <|Ya 78 K d33_77 <|Yc 3 2 81 K (hw 23) d33_78 <|Ya 82 K d33_81 <|Yc 3 19 85 K (hw 153) d33_82 ?_
    obtain ⟨x85,g85⟩:=oHas (xs:=rds.set n x17) (k:=ee.toInt.toNat) (by rw [List.length_set]; omega)
    obtain ⟨pp85,ww85,e1_85,e2_85,e3_85,e4_85,e5_85⟩:=hE'.2 _ _ (by omega) g85
    refine oW.laloadJ (i:=11) (k:=ee.toInt.toNat) (pc':=86) K d33_85 rfl (oIdx (by omega)) (by omega) g85 rfl ?_
    refine Yk [.long x85] [.int k0] 1 0 0 89 K (hw 173) (hw 174) (hw 86) (hw 175) (own_position @hw e1_85 ⟨by omega,e3_85⟩ ⟨e4_85,by omega⟩) (lenOf pd_3 rfl) d33_86 ?_
    rintro _ _ ⟨pz,rfl,tpz,rfl⟩
    refine G9 105 92 K d33_89 (fun c89=>?_) (fun c89=>?_)
    ·simp only [oLt32,oEq32,Int32.reduceToInt] at c89
     refine Ye 106 K d33_105 <|Ya 107 K d33_106 <|Yc 3 2 110 K (hw 23) d33_107 <|Ya 111 K d33_110 <|Yc 3 19 114 K (hw 153) d33_111 ?_
     obtain ⟨x114,g114⟩:=oHas (xs:=rds.set n x17) (k:=ee.toInt.toNat) (by rw [List.length_set]; omega)
     obtain ⟨pp114,ww114,e1_114,e2_114,e3_114,e4_114,e5_114⟩:=hE'.2 _ _ (by omega) g114
     refine oW.laloadJ (i:=11) (k:=ee.toInt.toNat) (pc':=115) K d33_114 rfl (oIdx (by omega)) (by omega) g114 rfl ?_
     refine Yk [.long x114] [.int po] 1 0 0 118 K (hw 173) (hw 174) (hw 86) (hw 175) (own_position @hw e1_114 ⟨by omega,e3_114⟩ ⟨e4_114,by omega⟩) (lenOf pd_3 rfl) d33_115 ?_
     rintro _ _ ⟨pw,rfl,tpw,rfl⟩
     obtain ⟨v118,ev118⟩:=oE (po - pw : Int32)
     refine Y9 119 K d33_118 ev118 ?_
     have tv118:=oIsub ev118 oOm
     try simp only [Int32.reduceToInt,Int64.reduceToInt] at tv118
     refine Yd 1 120 K d33_119 ?_
     obtain ⟨v120,ev120⟩:=oE (v118 + (1 : Int32) : Int32)
     refine Y0 121 K d33_120 ev120 ?_
     have tv120:=oIadd ev120 oOm
     try simp only [Int32.reduceToInt,Int64.reduceToInt] at tv120
     refine Yj 123 K d33_121 U5 <|Yb 125 K d33_123 ?_
     obtain ⟨v125,ev125⟩:=oE (FP.i2d v120 : UInt64)
     refine Gh 126 K d33_125 ev125 <|Y1 127 K d33_126 ?_
     obtain ⟨v127,ev127⟩:=oE (cmpValue (FP.dcmp v125 wv) .l : Int32)
     refine Gi 128 K d33_127 ev127 ?_
     refine Y2 133 131 K d33_128 (fun c128=>?_) (fun c128=>?_)
     ·refine Ya 134 K d33_133 <|Yc 3 3 137 K (hw 25) d33_134 <|Ya 138 K d33_137 ?_
      refine Yv 139 K d33_138 <|Yc 3 16 142 K (hw 143) d33_139 ?_
      refine Gg 143 K d33_142 <|Yd 1 144 K d33_143 ?_
      obtain ⟨v144,ev144⟩:=oE (cc + (1 : Int32) : Int32)
      refine Y0 145 K d33_144 ev144 ?_
      have tv144:=oIadd ev144 oOm
      try simp only [Int32.reduceToInt,Int64.reduceToInt] at tv144
      refine Yl 3 16 .int 148 K (hw 143) (Or.inl (hw 144)) (hw 10) (oAp_0 @hw) d33_145 rfl rfl (P3 F16) <|Yb 150 K d33_148 ?_
      refine oW.iastore (i:=12) (k:=cc.toInt.toNat) (ds':=[(b0,D0),(b1,D1),(b2,D2),(b3,oP b10 b13 b11 b12 b4 b5 b6 b7 b8 b9 (.int 2) f_an f_mc f_cn f_dl f_wi (.int v144) (.int v11) (.int hd) (.int ee)),(b4,D4),(b5,D5),(b6,D6),(b7,D7),(b8,D8),(b9,.inl (.int,[.int k0,.int po,.int k2])),(b10,D10),(b11,.inl (.long,((rds.set n x17).map Value.long))),(b12,.inl (.int,(cvs.set cc.toInt.toNat (.int v120)))),(b13,D13)]) (pc':=151) K d33_150 rfl (oIdx (by omega)) (by omega) (by omega) rfl rfl ?_
      refine Ya 152 K d33_151 ?_
      refine Ge b3 nM12 [] [] 0 0 0 155 K (hw 145) (hw 147) (hw 50) (hw 146) (hw 148) (hw 11) (own_restart @hw (n:=n + 1) (by omega) (by rw [List.length_set]; omega) hE' hK0 hK1 hk2) (lenOf pd_4 rfl) d33_152 ?_
      rintro _ rfl
      refine Yd 1 156 K d33_155 ?_
      exact Y5 K d33_156 ⟨_,rfl,_,_,_,_,_,_,_,_,_,_,rfl,rfl,by simp,by simp,Or.inr ⟨rfl,by omega,oRS.z⟩⟩
     refine Yd 0 132 K d33_131 ?_
     exact Y5 K d33_132 ⟨_,rfl,_,_,_,_,_,_,_,_,_,_,rfl,rfl,by simp,rfl,Or.inl ⟨rfl,rfl,by omega,by omega,by omega,hE',hK0,hK1,hk2⟩⟩
    simp only [oLt32,oEq32,Int32.reduceToInt] at c89
    refine Ya 93 K d33_92 ?_
    refine Yv 94 K d33_93 <|Yc 3 19 97 K (hw 153) d33_94 <|Yd 1 98 K d33_97 ?_
    obtain ⟨v98,ev98⟩:=oE (ee + (1 : Int32) : Int32)
    refine Y0 99 K d33_98 ev98 ?_
    have tv98:=oIadd ev98 oOm
    try simp only [Int32.reduceToInt,Int64.reduceToInt] at tv98
    refine Yl 3 19 .int 102 K (hw 153) (Or.inl (hw 154)) (hw 10) (oAp_0 @hw) d33_99 rfl rfl (P3 F19) <|Yi 60 K d33_102 ?_
    have hne : ee.toInt ≠ n:=fun q=>by have a1:=g72; have a2:=g85; rw [show ee.toInt.toNat=n by omega,oSetAt (by omega)] at a1 a2; have b1:=Option.some.inj a1; have b2:=Option.some.inj a2; subst b1; subst b2; omega
    exact IH60 v98 ⟨by omega,by omega⟩ (by omega)
   subst hwz
   have twz' : ww72=1:=by have:=oTs; omega
   refine Yn 9 1 77 K d33_76 <|Ya 78 K d33_77 <|Yc 3 2 81 K (hw 23) d33_78 <|Ya 82 K d33_81 <|Yc 3 19 85 K (hw 153) d33_82 ?_
   obtain ⟨x85,g85⟩:=oHas (xs:=rds.set n x17) (k:=ee.toInt.toNat) (by rw [List.length_set]; omega)
   obtain ⟨pp85,ww85,e1_85,e2_85,e3_85,e4_85,e5_85⟩:=hE'.2 _ _ (by omega) g85
   refine oW.laloadJ (i:=11) (k:=ee.toInt.toNat) (pc':=86) K d33_85 rfl (oIdx (by omega)) (by omega) g85 rfl ?_
   refine Yk [.long x85] [.int po] 1 0 0 89 K (hw 173) (hw 174) (hw 86) (hw 175) (own_position @hw e1_85 ⟨by omega,e3_85⟩ ⟨e4_85,by omega⟩) (lenOf pd_3 rfl) d33_86 ?_
   rintro _ _ ⟨pz,rfl,tpz,rfl⟩
   refine G9 105 92 K d33_89 (fun c89=>?_) (fun c89=>?_)
   ·simp only [oLt32,oEq32,Int32.reduceToInt] at c89
    refine Ye 106 K d33_105 <|Ya 107 K d33_106 <|Yc 3 2 110 K (hw 23) d33_107 <|Ya 111 K d33_110 <|Yc 3 19 114 K (hw 153) d33_111 ?_
    obtain ⟨x114,g114⟩:=oHas (xs:=rds.set n x17) (k:=ee.toInt.toNat) (by rw [List.length_set]; omega)
    obtain ⟨pp114,ww114,e1_114,e2_114,e3_114,e4_114,e5_114⟩:=hE'.2 _ _ (by omega) g114
    refine oW.laloadJ (i:=11) (k:=ee.toInt.toNat) (pc':=115) K d33_114 rfl (oIdx (by omega)) (by omega) g114 rfl ?_
    refine Yk [.long x114] [.int po] 1 0 0 118 K (hw 173) (hw 174) (hw 86) (hw 175) (own_position @hw e1_114 ⟨by omega,e3_114⟩ ⟨e4_114,by omega⟩) (lenOf pd_3 rfl) d33_115 ?_
    rintro _ _ ⟨pw,rfl,tpw,rfl⟩
    obtain ⟨v118,ev118⟩:=oE (po - pw : Int32)
    refine Y9 119 K d33_118 ev118 ?_
    have tv118:=oIsub ev118 oOm
    try simp only [Int32.reduceToInt,Int64.reduceToInt] at tv118
    refine Yd 1 120 K d33_119 ?_
    obtain ⟨v120,ev120⟩:=oE (v118 + (1 : Int32) : Int32)
    refine Y0 121 K d33_120 ev120 ?_
    have tv120:=oIadd ev120 oOm
    try simp only [Int32.reduceToInt,Int64.reduceToInt] at tv120
    refine Yj 123 K d33_121 U5 <|Yb 125 K d33_123 ?_
    obtain ⟨v125,ev125⟩:=oE (FP.i2d v120 : UInt64)
    refine Gh 126 K d33_125 ev125 <|Y1 127 K d33_126 ?_
    obtain ⟨v127,ev127⟩:=oE (cmpValue (FP.dcmp v125 wv) .l : Int32)
    refine Gi 128 K d33_127 ev127 ?_
    refine Y2 133 131 K d33_128 (fun c128=>?_) (fun c128=>?_)
    ·refine Ya 134 K d33_133 <|Yc 3 3 137 K (hw 25) d33_134 <|Ya 138 K d33_137 ?_
     refine Yv 139 K d33_138 <|Yc 3 16 142 K (hw 143) d33_139 ?_
     refine Gg 143 K d33_142 <|Yd 1 144 K d33_143 ?_
     obtain ⟨v144,ev144⟩:=oE (cc + (1 : Int32) : Int32)
     refine Y0 145 K d33_144 ev144 ?_
     have tv144:=oIadd ev144 oOm
     try simp only [Int32.reduceToInt,Int64.reduceToInt] at tv144
     refine Yl 3 16 .int 148 K (hw 143) (Or.inl (hw 144)) (hw 10) (oAp_0 @hw) d33_145 rfl rfl (P3 F16) <|Yb 150 K d33_148 ?_
     refine oW.iastore (i:=12) (k:=cc.toInt.toNat) (ds':=[(b0,D0),(b1,D1),(b2,D2),(b3,oP b10 b13 b11 b12 b4 b5 b6 b7 b8 b9 (.int 2) f_an f_mc f_cn f_dl f_wi (.int v144) (.int v11) (.int hd) (.int ee)),(b4,D4),(b5,D5),(b6,D6),(b7,D7),(b8,D8),(b9,.inl (.int,[.int k0,.int po,.int k2])),(b10,D10),(b11,.inl (.long,((rds.set n x17).map Value.long))),(b12,.inl (.int,(cvs.set cc.toInt.toNat (.int v120)))),(b13,D13)]) (pc':=151) K d33_150 rfl (oIdx (by omega)) (by omega) (by omega) rfl rfl ?_
     refine Ya 152 K d33_151 ?_
     refine Ge b3 nM12 [] [] 0 0 0 155 K (hw 145) (hw 147) (hw 50) (hw 146) (hw 148) (hw 11) (own_restart @hw (n:=n + 1) (by omega) (by rw [List.length_set]; omega) hE' hK0 hK1 hk2) (lenOf pd_4 rfl) d33_152 ?_
     rintro _ rfl
     refine Yd 1 156 K d33_155 ?_
     exact Y5 K d33_156 ⟨_,rfl,_,_,_,_,_,_,_,_,_,_,rfl,rfl,by simp,by simp,Or.inr ⟨rfl,by omega,oRS.z⟩⟩
    refine Yd 0 132 K d33_131 ?_
    exact Y5 K d33_132 ⟨_,rfl,_,_,_,_,_,_,_,_,_,_,rfl,rfl,by simp,rfl,Or.inl ⟨rfl,rfl,by omega,by omega,by omega,hE',hK0,hK1,hk2⟩⟩
   simp only [oLt32,oEq32,Int32.reduceToInt] at c89
   refine Ya 93 K d33_92 ?_
   refine Yv 94 K d33_93 <|Yc 3 19 97 K (hw 153) d33_94 <|Yd 1 98 K d33_97 ?_
   obtain ⟨v98,ev98⟩:=oE (ee + (1 : Int32) : Int32)
   refine Y0 99 K d33_98 ev98 ?_
   have tv98:=oIadd ev98 oOm
   try simp only [Int32.reduceToInt,Int64.reduceToInt] at tv98
   refine Yl 3 19 .int 102 K (hw 153) (Or.inl (hw 154)) (hw 10) (oAp_0 @hw) d33_99 rfl rfl (P3 F19) <|Yi 60 K d33_102 ?_
   have hne : ee.toInt ≠ n:=fun q=>by have a1:=g72; have a2:=g85; rw [show ee.toInt.toNat=n by omega,oSetAt (by omega)] at a1 a2; have b1:=Option.some.inj a1; have b2:=Option.some.inj a2; subst b1; subst b2; omega
   exact IH60 v98 ⟨by omega,by omega⟩ (by omega)
  simp only [oLt32,oEq32,Int32.reduceToInt] at c55
  refine Yd 0 59 K d33_58 ?_
  exact Y5 K d33_59 ⟨_,rfl,_,_,_,_,_,_,_,_,_,_,rfl,rfl,by simp,rfl,Or.inl ⟨rfl,rfl,by omega,by omega,by omega,hE',hK0,hK1,hk2⟩⟩
 simp only [oLt32,oEq32,Int32.reduceToInt] at c27
 refine Ya 31 K d33_30 ?_
 refine Yv 32 K d33_31 <|Yc 3 18 35 K (hw 151) d33_32 <|Yd 1 36 K d33_35 ?_
 obtain ⟨v36,ev36⟩:=oE (hd + (1 : Int32) : Int32)
 refine Y0 37 K d33_36 ev36 ?_
 refine Yl 3 18 .int 40 K (hw 151) (Or.inl (hw 152)) (hw 10) (oAp_0 @hw) d33_37 rfl rfl (P3 F18) <|Ya 41 K d33_40 <|Yc 3 9 44 K (hw 45) d33_41 <|Ye 45 K d33_44 <|Ye 46 K d33_45 ?_
 refine Yr 9 1 47 K d33_46 rfl (S9 T1) ?_
 have hK0 : oKp (rds.set n x17) (n + 1) k0 0:=hk0.set
 have hK1 : oKp (rds.set n x17) (n + 1) po 1:=oKp.new (by omega) tx17'
 refine Ya 48 K d33_47 <|Yc 3 18 51 K (hw 151) d33_48 <|Ya 52 K d33_51 <|Yc 3 10 55 K (hw 57) d33_52 ?_
 refine Gm 60 58 K d33_55 (fun c55=>?_) (fun c55=>?_)
 ·simp only [oLt32,oEq32,Int32.reduceToInt] at c55
  refine oW.loop (F:=fun z : Int32=>0≤z.toInt∧z.toInt≤n) (mu:=fun z=>n - z.toInt.toNat) (pcj:=60) (Lf:=fun z=>#[.val (.ref b3),.val (.int po),.val (.int 1),.val (.double wv),.second,.unset]) (Sf:=fun z=>[]) (dsf:=fun z=>[(b0,D0),(b1,D1),(b2,D2),(b3,oP b10 b13 b11 b12 b4 b5 b6 b7 b8 b9 (.int 2) f_an f_mc f_cn f_dl f_wi (.int cc) (.int v11) (.int v36) (.int z)),(b4,D4),(b5,D5),(b6,D6),(b7,D7),(b8,D8),(b9,.inl (.int,[.int k0,.int po,.int k2])),(b10,D10),(b11,.inl (.long,((rds.set n x17).map Value.long))),(b12,.inl (.int,cvs)),(b13,D13)]) ?_ ea ⟨by omega,by omega⟩
  rintro ee hF60 IH60
  obtain ⟨f1,f2⟩:=hF60
  refine Ya 61 K d33_60 <|Yc 3 9 64 K (hw 45) d33_61 <|Ya 65 K d33_64 <|Yc 3 2 68 K (hw 23) d33_65 <|Ya 69 K d33_68 <|Yc 3 19 72 K (hw 153) d33_69 ?_
  obtain ⟨x72,g72⟩:=oHas (xs:=rds.set n x17) (k:=ee.toInt.toNat) (by rw [List.length_set]; omega)
  obtain ⟨pp72,ww72,e1_72,e2_72,e3_72,e4_72,e5_72⟩:=hE'.2 _ _ (by omega) g72
  refine oW.laloadJ (i:=11) (k:=ee.toInt.toNat) (pc':=73) K d33_72 rfl (oIdx (by omega)) (by omega) g72 rfl ?_
  refine Yk [.long x72] [.ref b9] 1 0 0 76 K (hw 176) (hw 177) (hw 86) (hw 178) (own_word @hw e1_72 ⟨e4_72,by omega⟩) (lenOf pd_3 rfl) d33_73 ?_
  rintro _ _ ⟨wz,rfl,twz,rfl⟩
  have hwz : wz=0∨wz=1:=by simp only [oEq32,Int32.reduceToInt]; omega
  rcases hwz with hwz|hwz
  ·subst hwz
   have twz' : ww72=0:=by have:=oTs; omega
   refine Yn 9 0 77 K d33_76 <|Ya 78 K d33_77 <|Yc 3 2 81 K (hw 23) d33_78 <|Ya 82 K d33_81 <|Yc 3 19 85 K (hw 153) d33_82 ?_
   obtain ⟨x85,g85⟩:=oHas (xs:=rds.set n x17) (k:=ee.toInt.toNat) (by rw [List.length_set]; omega)
   obtain ⟨pp85,ww85,e1_85,e2_85,e3_85,e4_85,e5_85⟩:=hE'.2 _ _ (by omega) g85
   refine oW.laloadJ (i:=11) (k:=ee.toInt.toNat) (pc':=86) K d33_85 rfl (oIdx (by omega)) (by omega) g85 rfl ?_
   refine Yk [.long x85] [.int k0] 1 0 0 89 K (hw 173) (hw 174) (hw 86) (hw 175) (own_position @hw e1_85 ⟨by omega,e3_85⟩ ⟨e4_85,by omega⟩) (lenOf pd_3 rfl) d33_86 ?_
   rintro _ _ ⟨pz,rfl,tpz,rfl⟩
   refine G9 105 92 K d33_89 (fun c89=>?_) (fun c89=>?_)
   ·simp only [oLt32,oEq32,Int32.reduceToInt] at c89
    refine Ye 106 K d33_105 <|Ya 107 K d33_106 <|Yc 3 2 110 K (hw 23) d33_107 <|Ya 111 K d33_110 <|Yc 3 19 114 K (hw 153) d33_111 ?_
    obtain ⟨x114,g114⟩:=oHas (xs:=rds.set n x17) (k:=ee.toInt.toNat) (by rw [List.length_set]; omega)
    obtain ⟨pp114,ww114,e1_114,e2_114,e3_114,e4_114,e5_114⟩:=hE'.2 _ _ (by omega) g114
    refine oW.laloadJ (i:=11) (k:=ee.toInt.toNat) (pc':=115) K d33_114 rfl (oIdx (by omega)) (by omega) g114 rfl ?_
    refine Yk [.long x114] [.int po] 1 0 0 118 K (hw 173) (hw 174) (hw 86) (hw 175) (own_position @hw e1_114 ⟨by omega,e3_114⟩ ⟨e4_114,by omega⟩) (lenOf pd_3 rfl) d33_115 ?_
    rintro _ _ ⟨pw,rfl,tpw,rfl⟩
    obtain ⟨v118,ev118⟩:=oE (po - pw : Int32)
    refine Y9 119 K d33_118 ev118 ?_
    have tv118:=oIsub ev118 oOm
    try simp only [Int32.reduceToInt,Int64.reduceToInt] at tv118
    refine Yd 1 120 K d33_119 ?_
    obtain ⟨v120,ev120⟩:=oE (v118 + (1 : Int32) : Int32)
    refine Y0 121 K d33_120 ev120 ?_
    have tv120:=oIadd ev120 oOm
    try simp only [Int32.reduceToInt,Int64.reduceToInt] at tv120
    refine Yj 123 K d33_121 U5 <|Yb 125 K d33_123 ?_
    obtain ⟨v125,ev125⟩:=oE (FP.i2d v120 : UInt64)
    refine Gh 126 K d33_125 ev125 <|Y1 127 K d33_126 ?_
    obtain ⟨v127,ev127⟩:=oE (cmpValue (FP.dcmp v125 wv) .l : Int32)
    refine Gi 128 K d33_127 ev127 ?_
    refine Y2 133 131 K d33_128 (fun c128=>?_) (fun c128=>?_)
    ·refine Ya 134 K d33_133 <|Yc 3 3 137 K (hw 25) d33_134 <|Ya 138 K d33_137 ?_
     refine Yv 139 K d33_138 <|Yc 3 16 142 K (hw 143) d33_139 ?_
     refine Gg 143 K d33_142 <|Yd 1 144 K d33_143 ?_
     obtain ⟨v144,ev144⟩:=oE (cc + (1 : Int32) : Int32)
     refine Y0 145 K d33_144 ev144 ?_
     have tv144:=oIadd ev144 oOm
     try simp only [Int32.reduceToInt,Int64.reduceToInt] at tv144
     refine Yl 3 16 .int 148 K (hw 143) (Or.inl (hw 144)) (hw 10) (oAp_0 @hw) d33_145 rfl rfl (P3 F16) <|Yb 150 K d33_148 ?_
     refine oW.iastore (i:=12) (k:=cc.toInt.toNat) (ds':=[(b0,D0),(b1,D1),(b2,D2),(b3,oP b10 b13 b11 b12 b4 b5 b6 b7 b8 b9 (.int 2) f_an f_mc f_cn f_dl f_wi (.int v144) (.int v11) (.int v36) (.int ee)),(b4,D4),(b5,D5),(b6,D6),(b7,D7),(b8,D8),(b9,.inl (.int,[.int k0,.int po,.int k2])),(b10,D10),(b11,.inl (.long,((rds.set n x17).map Value.long))),(b12,.inl (.int,(cvs.set cc.toInt.toNat (.int v120)))),(b13,D13)]) (pc':=151) K d33_150 rfl (oIdx (by omega)) (by omega) (by omega) rfl rfl ?_
     refine Ya 152 K d33_151 ?_
     refine Ge b3 nM12 [] [] 0 0 0 155 K (hw 145) (hw 147) (hw 50) (hw 146) (hw 148) (hw 11) (own_restart @hw (n:=n + 1) (by omega) (by rw [List.length_set]; omega) hE' hK0 hK1 hk2) (lenOf pd_4 rfl) d33_152 ?_
     rintro _ rfl
     refine Yd 1 156 K d33_155 ?_
     exact Y5 K d33_156 ⟨_,rfl,_,_,_,_,_,_,_,_,_,_,rfl,rfl,by simp,by simp,Or.inr ⟨rfl,by omega,oRS.z⟩⟩
    refine Yd 0 132 K d33_131 ?_
    exact Y5 K d33_132 ⟨_,rfl,_,_,_,_,_,_,_,_,_,_,rfl,rfl,by simp,rfl,Or.inl ⟨rfl,rfl,by omega,by omega,by omega,hE',hK0,hK1,hk2⟩⟩
   simp only [oLt32,oEq32,Int32.reduceToInt] at c89
   refine Ya 93 K d33_92 ?_
   refine Yv 94 K d33_93 <|Yc 3 19 97 K (hw 153) d33_94 <|Yd 1 98 K d33_97 ?_
   obtain ⟨v98,ev98⟩:=oE (ee + (1 : Int32) : Int32)
   refine Y0 99 K d33_98 ev98 ?_
   have tv98:=oIadd ev98 oOm
   try simp only [Int32.reduceToInt,Int64.reduceToInt] at tv98
   refine Yl 3 19 .int 102 K (hw 153) (Or.inl (hw 154)) (hw 10) (oAp_0 @hw) d33_99 rfl rfl (P3 F19) <|Yi 60 K d33_102 ?_
   have hne : ee.toInt ≠ n:=fun q=>by have a1:=g72; have a2:=g85; rw [show ee.toInt.toNat=n by omega,oSetAt (by omega)] at a1 a2; have b1:=Option.some.inj a1; have b2:=Option.some.inj a2; subst b1; subst b2; omega
   exact IH60 v98 ⟨by omega,by omega⟩ (by omega)
  subst hwz
  have twz' : ww72=1:=by have:=oTs; omega
  refine Yn 9 1 77 K d33_76 <|Ya 78 K d33_77 <|Yc 3 2 81 K (hw 23) d33_78 <|Ya 82 K d33_81 <|Yc 3 19 85 K (hw 153) d33_82 ?_
  obtain ⟨x85,g85⟩:=oHas (xs:=rds.set n x17) (k:=ee.toInt.toNat) (by rw [List.length_set]; omega)
  obtain ⟨pp85,ww85,e1_85,e2_85,e3_85,e4_85,e5_85⟩:=hE'.2 _ _ (by omega) g85
  refine oW.laloadJ (i:=11) (k:=ee.toInt.toNat) (pc':=86) K d33_85 rfl (oIdx (by omega)) (by omega) g85 rfl ?_
  refine Yk [.long x85] [.int po] 1 0 0 89 K (hw 173) (hw 174) (hw 86) (hw 175) (own_position @hw e1_85 ⟨by omega,e3_85⟩ ⟨e4_85,by omega⟩) (lenOf pd_3 rfl) d33_86 ?_
  rintro _ _ ⟨pz,rfl,tpz,rfl⟩
  refine G9 105 92 K d33_89 (fun c89=>?_) (fun c89=>?_)
  ·simp only [oLt32,oEq32,Int32.reduceToInt] at c89
   refine Ye 106 K d33_105 <|Ya 107 K d33_106 <|Yc 3 2 110 K (hw 23) d33_107 <|Ya 111 K d33_110 <|Yc 3 19 114 K (hw 153) d33_111 ?_
   obtain ⟨x114,g114⟩:=oHas (xs:=rds.set n x17) (k:=ee.toInt.toNat) (by rw [List.length_set]; omega)
   obtain ⟨pp114,ww114,e1_114,e2_114,e3_114,e4_114,e5_114⟩:=hE'.2 _ _ (by omega) g114
   refine oW.laloadJ (i:=11) (k:=ee.toInt.toNat) (pc':=115) K d33_114 rfl (oIdx (by omega)) (by omega) g114 rfl ?_
   refine Yk [.long x114] [.int po] 1 0 0 118 K (hw 173) (hw 174) (hw 86) (hw 175) (own_position @hw e1_114 ⟨by omega,e3_114⟩ ⟨e4_114,by omega⟩) (lenOf pd_3 rfl) d33_115 ?_
   rintro _ _ ⟨pw,rfl,tpw,rfl⟩
   obtain ⟨v118,ev118⟩:=oE (po - pw : Int32)
   refine Y9 119 K d33_118 ev118 ?_
   have tv118:=oIsub ev118 oOm
   try simp only [Int32.reduceToInt,Int64.reduceToInt] at tv118
   refine Yd 1 120 K d33_119 ?_
   obtain ⟨v120,ev120⟩:=oE (v118 + (1 : Int32) : Int32)
   refine Y0 121 K d33_120 ev120 ?_
   have tv120:=oIadd ev120 oOm
   try simp only [Int32.reduceToInt,Int64.reduceToInt] at tv120
   refine Yj 123 K d33_121 U5 <|Yb 125 K d33_123 ?_
   obtain ⟨v125,ev125⟩:=oE (FP.i2d v120 : UInt64)
   refine Gh 126 K d33_125 ev125 <|Y1 127 K d33_126 ?_
   obtain ⟨v127,ev127⟩:=oE (cmpValue (FP.dcmp v125 wv) .l : Int32)
   refine Gi 128 K d33_127 ev127 ?_
   refine Y2 133 131 K d33_128 (fun c128=>?_) (fun c128=>?_)
   ·refine Ya 134 K d33_133 <|Yc 3 3 137 K (hw 25) d33_134 <|Ya 138 K d33_137 ?_
    refine Yv 139 K d33_138 <|Yc 3 16 142 K (hw 143) d33_139 ?_
    refine Gg 143 K d33_142 <|Yd 1 144 K d33_143 ?_
    obtain ⟨v144,ev144⟩:=oE (cc + (1 : Int32) : Int32)
    refine Y0 145 K d33_144 ev144 ?_
    have tv144:=oIadd ev144 oOm
    try simp only [Int32.reduceToInt,Int64.reduceToInt] at tv144
    refine Yl 3 16 .int 148 K (hw 143) (Or.inl (hw 144)) (hw 10) (oAp_0 @hw) d33_145 rfl rfl (P3 F16) <|Yb 150 K d33_148 ?_
    refine oW.iastore (i:=12) (k:=cc.toInt.toNat) (ds':=[(b0,D0),(b1,D1),(b2,D2),(b3,oP b10 b13 b11 b12 b4 b5 b6 b7 b8 b9 (.int 2) f_an f_mc f_cn f_dl f_wi (.int v144) (.int v11) (.int v36) (.int ee)),(b4,D4),(b5,D5),(b6,D6),(b7,D7),(b8,D8),(b9,.inl (.int,[.int k0,.int po,.int k2])),(b10,D10),(b11,.inl (.long,((rds.set n x17).map Value.long))),(b12,.inl (.int,(cvs.set cc.toInt.toNat (.int v120)))),(b13,D13)]) (pc':=151) K d33_150 rfl (oIdx (by omega)) (by omega) (by omega) rfl rfl ?_
    refine Ya 152 K d33_151 ?_
    refine Ge b3 nM12 [] [] 0 0 0 155 K (hw 145) (hw 147) (hw 50) (hw 146) (hw 148) (hw 11) (own_restart @hw (n:=n + 1) (by omega) (by rw [List.length_set]; omega) hE' hK0 hK1 hk2) (lenOf pd_4 rfl) d33_152 ?_
    rintro _ rfl
    refine Yd 1 156 K d33_155 ?_
    exact Y5 K d33_156 ⟨_,rfl,_,_,_,_,_,_,_,_,_,_,rfl,rfl,by simp,by simp,Or.inr ⟨rfl,by omega,oRS.z⟩⟩
   refine Yd 0 132 K d33_131 ?_
   exact Y5 K d33_132 ⟨_,rfl,_,_,_,_,_,_,_,_,_,_,rfl,rfl,by simp,rfl,Or.inl ⟨rfl,rfl,by omega,by omega,by omega,hE',hK0,hK1,hk2⟩⟩
  simp only [oLt32,oEq32,Int32.reduceToInt] at c89
  refine Ya 93 K d33_92 ?_
  refine Yv 94 K d33_93 <|Yc 3 19 97 K (hw 153) d33_94 <|Yd 1 98 K d33_97 ?_
  obtain ⟨v98,ev98⟩:=oE (ee + (1 : Int32) : Int32)
  refine Y0 99 K d33_98 ev98 ?_
  have tv98:=oIadd ev98 oOm
  try simp only [Int32.reduceToInt,Int64.reduceToInt] at tv98
  refine Yl 3 19 .int 102 K (hw 153) (Or.inl (hw 154)) (hw 10) (oAp_0 @hw) d33_99 rfl rfl (P3 F19) <|Yi 60 K d33_102 ?_
  have hne : ee.toInt ≠ n:=fun q=>by have a1:=g72; have a2:=g85; rw [show ee.toInt.toNat=n by omega,oSetAt (by omega)] at a1 a2; have b1:=Option.some.inj a1; have b2:=Option.some.inj a2; subst b1; subst b2; omega
  exact IH60 v98 ⟨by omega,by omega⟩ (by omega)
 simp only [oLt32,oEq32,Int32.reduceToInt] at c55
 refine Yd 0 59 K d33_58 ?_
 exact Y5 K d33_59 ⟨_,rfl,_,_,_,_,_,_,_,_,_,_,rfl,rfl,by simp,rfl,Or.inl ⟨rfl,rfl,by omega,by omega,by omega,hE',hK0,hK1,hk2⟩⟩
abbrev e27 (n : Nat) := decode prog_7_method_9_code n
theorem d27_0 : e27 0=.ok (.aload_n 0,1):=by decide +kernel
theorem d27_1 : e27 1=.ok (.getfield 9,3):=by decide +kernel
theorem d27_4 : e27 4=.ok (.aload_n 0,1):=by decide +kernel
theorem d27_5 : e27 5=.ok (.getfield 60,3):=by decide +kernel
theorem d27_8 : e27 8=.ok (.iload_n 1,1):=by decide +kernel
theorem d27_9 : e27 9=.ok (.invokestatic 129,3):=by decide +kernel
theorem d27_12 : e27 12=.ok (.istore 5,2):=by decide +kernel
theorem d27_14 : e27 14=.ok (.iload 5,2):=by decide +kernel
theorem d27_16 : e27 16=.ok (.aload_n 0,1):=by decide +kernel
theorem d27_17 : e27 17=.ok (.getfield 60,3):=by decide +kernel
theorem d27_20 : e27 20=.ok (.if_icmp .ge 71,3):=by decide +kernel
theorem d27_23 : e27 23=.ok (.aload_n 0,1):=by decide +kernel
theorem d27_24 : e27 24=.ok (.getfield 9,3):=by decide +kernel
theorem d27_27 : e27 27=.ok (.iload 5,2):=by decide +kernel
theorem d27_29 : e27 29=.ok (.laload,1):=by decide +kernel
theorem d27_30 : e27 30=.ok (.invokestatic 133,3):=by decide +kernel
theorem d27_33 : e27 33=.ok (.istore 6,2):=by decide +kernel
theorem d27_35 : e27 35=.ok (.iload 6,2):=by decide +kernel
theorem d27_37 : e27 37=.ok (.iload_n 2,1):=by decide +kernel
theorem d27_38 : e27 38=.ok (.if_icmp .le 6,3):=by decide +kernel
theorem d27_41 : e27 41=.ok (.goto 50,3):=by decide +kernel
theorem d27_44 : e27 44=.ok (.aload_n 0,1):=by decide +kernel
theorem d27_45 : e27 45=.ok (.getfield 32,3):=by decide +kernel
theorem d27_48 : e27 48=.ok (.aload_n 0,1):=by decide +kernel
theorem d27_49 : e27 49=.ok (.getfield 9,3):=by decide +kernel
theorem d27_52 : e27 52=.ok (.iload 5,2):=by decide +kernel
theorem d27_54 : e27 54=.ok (.laload,1):=by decide +kernel
theorem d27_55 : e27 55=.ok (.invokestatic 137,3):=by decide +kernel
theorem d27_58 : e27 58=.ok (.iaload,1):=by decide +kernel
theorem d27_59 : e27 59=.ok (.istore 7,2):=by decide +kernel
theorem d27_61 : e27 61=.ok (.iload 7,2):=by decide +kernel
theorem d27_63 : e27 63=.ok (.aload_n 0,1):=by decide +kernel
theorem d27_64 : e27 64=.ok (.getfield 66,3):=by decide +kernel
theorem d27_67 : e27 67=.ok (.if_icmp .ge 18,3):=by decide +kernel
theorem d27_70 : e27 70=.ok (.aload_n 0,1):=by decide +kernel
theorem d27_71 : e27 71=.ok (.iload 6,2):=by decide +kernel
theorem d27_73 : e27 73=.ok (.iload 7,2):=by decide +kernel
theorem d27_75 : e27 75=.ok (.dload_n 3,1):=by decide +kernel
theorem d27_76 : e27 76=.ok (.invokevirtual 140,3):=by decide +kernel
theorem d27_79 : e27 79=.ok (.ifCond .eq 6,3):=by decide +kernel
theorem d27_82 : e27 82=.ok (.iload 6,2):=by decide +kernel
theorem d27_84 : e27 84=.ok (.ireturn,1):=by decide +kernel
theorem d27_85 : e27 85=.ok (.iinc 5 1,3):=by decide +kernel
theorem d27_88 : e27 88=.ok (.goto (-74),3):=by decide +kernel
theorem d27_91 : e27 91=.ok (.iconst 0,1):=by decide +kernel
theorem d27_92 : e27 92=.ok (.ireturn,1):=by decide +kernel
theorem pd_5 : parseMethodDescriptor "([JII)I" = some ⟨[(.array .long), .int, .int], some .int⟩ := by decide +kernel
theorem pd_6 : parseMethodDescriptor "(IID)Z" = some ⟨[.int, .int, .double], some .boolean⟩ := by decide +kernel
theorem own_rrG (hw : oHw a0 Z) {D0 D1 D2 D4 D5 D7 D8 D13 : oDsc} {f_an f_mc f_dl f_wi : Value} {ocs : List Int64} {cnt : Nat} {cn : Int32} (hcn : cn.toInt=(cnt : Int)) (hO : oEnt ocs cnt 2) (hs : oSrt ocs cnt) (hol : ocs.length≤1000) {rds : List Int64} {cvs : List Value} {n : Nat} {rc hd ea cc k0 k1 k2 : Int32} (hrs : oRS rds n rc ea k0 k1 k2) (hrl : cnt≤rds.length∧rds.length≤1000) (hcc : 0≤cc.toInt∧cc.toInt < (cvs.length : Int)∧cvs.length≤1000) {lo hi : Int32} {wv : UInt64} (hlo : 1≤lo.toInt) (hhi : lo.toInt≤hi.toInt + 1) (hh2 : hi.toInt≤1000000) (ht : ∃ t : Nat,n≤t∧t≤cnt∧∀ (i : Nat) (x : Int64),i < t→ocs[i]?=some x→x.toInt < lo.toInt * 4294967296) :
  oCtr l Z h0 [] nM13 prog_7_method_9_code 8 (some .int) (oR 3 0 0 64) #[.ref b3,.int lo,.int hi,.double wv] [(b0,D0),(b1,D1),(b2,D2),(b3,oP b10 b13 b11 b12 b4 b5 b6 b7 b8 b9 (.int 2) f_an f_mc (.int cn) f_dl f_wi (.int cc) (.int rc) (.int hd) (.int ea)),(b4,D4),(b5,D5),(b6,.inl (.int,[.int 0,.int 1,.int 2147483647])),(b7,D7),(b8,D8),(b9,.inl (.int,[.int k0,.int k1,.int k2])),(b10,.inl (.long,(ocs.map Value.long))),(b11,.inl (.long,(rds.map Value.long))),(b12,.inl (.int,cvs)),(b13,D13)] (oVal fun w d=>∃ (rds' : List Int64) (cvs' : List Value) (rc' hd' ea' cc' k0' k1' k2' z : Int32) (n' : Nat),w=.int z∧d=[(b0,D0),(b1,D1),(b2,D2),(b3,oP b10 b13 b11 b12 b4 b5 b6 b7 b8 b9 (.int 2) f_an f_mc (.int cn) f_dl f_wi (.int cc') (.int rc') (.int hd') (.int ea')),(b4,D4),(b5,D5),(b6,.inl (.int,[.int 0,.int 1,.int 2147483647])),(b7,D7),(b8,D8),(b9,.inl (.int,[.int k0',.int k1',.int k2'])),(b10,.inl (.long,(ocs.map Value.long))),(b11,.inl (.long,(rds'.map Value.long))),(b12,.inl (.int,cvs')),(b13,D13)]∧rds'.length=rds.length∧cvs'.length=cvs.length∧oRS rds' n' rc' ea' k0' k1' k2'∧((z=0∧cc=cc'∧∃ t : Nat,n'≤t∧t≤cnt∧∀ (i : Nat) (x : Int64),i < t→ocs[i]?=some x→x.toInt < (hi.toInt + 1) * 4294967296)∨(1≤z.toInt∧z.toInt≤hi.toInt∧cc'.toInt=cc.toInt + 1∧n'=0))):=by
 refine oCo #[.val (.ref b3),.val (.int lo),.val (.int hi),.val (.double wv),.second,.unset,.unset,.unset] ?_
 intro p e s m below meth c K
 have hO1:=hO.1
 refine Ya 1 K d27_0 <|Yc 3 0 4 K (hw 19) d27_1 <|Ya 5 K d27_4 <|Yc 3 13 8 K (hw 63) d27_5 <|Ye 9 K d27_8 ?_
 refine Yk [.ref b10,.int cn,.int lo] [] 0 0 0 12 K (hw 164) (hw 165) (hw 86) (hw 166) (own_first @hw (ix:=10) rfl hcn hO.1 hol hs (by omega)) (lenOf pd_5 rfl) d27_9 ?_
 rintro _ _ ⟨fz,r,rfl,tfz,hcut,rfl⟩
 have hrn:=hcut.1
 obtain ⟨t,ht1,ht2,ht3⟩:=ht
 have htr:=oCutLe hcut hO1 ht2 ht3
 refine Yj 14 K d27_12 U5 ?_
 refine oW.loop (F:=fun z : Int32 × Slot × Slot × Int32 × Int32 × Int32 × Int32 × Int32 × Int32 × List Int64 × List Value=>∃ n' : Nat,oRS z.2.2.2.2.2.2.2.2.2.1 n' z.2.2.2.1 z.2.2.2.2.2.1 z.2.2.2.2.2.2.1 z.2.2.2.2.2.2.2.1 z.2.2.2.2.2.2.2.2.1∧z.2.2.2.2.2.2.2.2.2.1.length=rds.length∧z.2.2.2.2.2.2.2.2.2.2.length=cvs.length∧(n' : Int)≤z.1.toInt∧0≤z.1.toInt∧z.1.toInt≤(cnt : Int)∧(∀ (j : Nat) (x : Int64),(j : Int) < z.1.toInt→ocs[j]?=some x→x.toInt < (hi.toInt + 1) * 4294967296)∧oDead z.2.1∧oDead z.2.2.1) (mu:=fun z=>cnt - z.1.toInt.toNat) (pcj:=14) (Lf:=fun z=>#[.val (.ref b3),.val (.int lo),.val (.int hi),.val (.double wv),.second,.val (.int z.1),z.2.1,z.2.2.1]) (Sf:=fun z=>[]) (dsf:=fun z=>[(b0,D0),(b1,D1),(b2,D2),(b3,oP b10 b13 b11 b12 b4 b5 b6 b7 b8 b9 (.int 2) f_an f_mc (.int cn) f_dl f_wi (.int cc) (.int z.2.2.2.1) (.int z.2.2.2.2.1) (.int z.2.2.2.2.2.1)),(b4,D4),(b5,D5),(b6,.inl (.int,[.int 0,.int 1,.int 2147483647])),(b7,D7),(b8,D8),(b9,.inl (.int,[(.int z.2.2.2.2.2.2.1),(.int z.2.2.2.2.2.2.2.1),(.int z.2.2.2.2.2.2.2.2.1)])),(b10,.inl (.long,(ocs.map Value.long))),(b11,.inl (.long,(z.2.2.2.2.2.2.2.2.2.1.map Value.long))),(b12,.inl (.int,z.2.2.2.2.2.2.2.2.2.2)),(b13,D13)]) ?_ (fz,(.unset : Slot),(.unset : Slot),rc,hd,ea,k0,k1,k2,rds,cvs) (by dsimp only; exact ⟨n,hrs,rfl,rfl,by omega,by omega,by omega,fun j x h q=>by have:=hcut.2.1 j x (by omega) q; omega,Or.inl rfl,Or.inl rfl⟩)
 rintro ⟨ii,s1,s2,rcL,hdL,eaL,k0L,k1L,k2L,rdsL,cvsL⟩ hF14 IH14
 dsimp only at hF14 IH14 ⊢
 obtain ⟨n',h1,h2,h3,h4,h5,h6,h7,f8,f9⟩:=hF14
 refine Yb 16 K d27_14 <|Ya 17 K d27_16 <|Yc 3 13 20 K (hw 63) d27_17 ?_
 refine Gm 91 23 K d27_20 (fun c20=>?_) (fun c20=>?_)
 ·simp only [oLt32,oEq32,Int32.reduceToInt] at c20
  refine Yd 0 92 K d27_91 ?_
  exact Yq K d27_92 ⟨_,rfl,_,_,_,_,_,_,_,_,_,_,n',rfl,rfl,h2,h3,h1,Or.inl ⟨rfl,rfl,ii.toInt.toNat,by omega,by omega,fun i x h q=>h7 i x (by omega) q⟩⟩
 simp only [oLt32,oEq32,Int32.reduceToInt] at c20
 refine Ya 24 K d27_23 <|Yc 3 0 27 K (hw 19) d27_24 <|Yb 29 K d27_27 ?_
 obtain ⟨x29,g29⟩:=oHas (xs:=ocs) (k:=ii.toInt.toNat) (by omega)
 obtain ⟨pp29,ww29,e1_29,e2_29,e3_29,e4_29,e5_29⟩:=hO.2 _ _ (by omega) g29
 refine oW.laloadJ (i:=10) (k:=ii.toInt.toNat) (pc':=30) K d27_29 rfl (oIdx (by omega)) (by omega) g29 rfl ?_
 refine Yk [.long x29] [] 0 0 0 33 K (hw 173) (hw 174) (hw 86) (hw 175) (own_position @hw e1_29 ⟨by omega,e3_29⟩ ⟨e4_29,by omega⟩) (lenOf pd_3 rfl) d27_30 ?_
 rintro _ _ ⟨pz,rfl,tpz,rfl⟩
 refine oW.istore (Ls':=#[.val (.ref b3),.val (.int lo),.val (.int hi),.val (.double wv),.second,.val (.int ii),.val (.int pz),s2]) (pc':=35) K d27_33 (oStoreDead rfl f8 rfl) rfl ?_
 refine Yb 37 K d27_35 <|Ye 38 K d27_37 ?_
 refine Hm 44 41 K d27_38 (fun c38=>?_) (fun c38=>?_)
 ·simp only [oLt32,oEq32,Int32.reduceToInt] at c38
  refine Ya 45 K d27_44 <|Yc 3 6 48 K (hw 32) d27_45 <|Ya 49 K d27_48 <|Yc 3 0 52 K (hw 19) d27_49 <|Yb 54 K d27_52 ?_
  obtain ⟨x54,g54⟩:=oHas (xs:=ocs) (k:=ii.toInt.toNat) (by omega)
  obtain ⟨pp54,ww54,e1_54,e2_54,e3_54,e4_54,e5_54⟩:=hO.2 _ _ (by omega) g54
  refine oW.laloadJ (i:=10) (k:=ii.toInt.toNat) (pc':=55) K d27_54 rfl (oIdx (by omega)) (by omega) g54 rfl ?_
  refine Yk [.long x54] [.ref b6] 1 0 0 58 K (hw 176) (hw 177) (hw 86) (hw 178) (own_word @hw e1_54 ⟨e4_54,by omega⟩) (lenOf pd_3 rfl) d27_55 ?_
  rintro _ _ ⟨wz,rfl,twz,rfl⟩
  have hwz : wz=0∨wz=1∨wz=2:=by simp only [oEq32,Int32.reduceToInt]; omega
  rcases hwz with hwz|hwz|hwz
  ·subst hwz
   have twz' : ww54=0:=by have:=oTs; omega
   refine Yn 6 0 59 K d27_58 ?_
   refine oW.istore (Ls':=#[.val (.ref b3),.val (.int lo),.val (.int hi),.val (.double wv),.second,.val (.int ii),.val (.int pz),.val (.int 0)]) (pc':=61) K d27_59 (oStoreDead rfl f9 rfl) rfl ?_
   refine Yb 63 K d27_61 <|Ya 64 K d27_63 <|Yc 3 10 67 K (hw 57) d27_64 ?_
   refine Yy 85 70 K d27_67 <|Ya 71 K d27_70 <|Yb 73 K d27_71 <|Yb 75 K d27_73 <|Y1 76 K d27_75 ?_
   refine Gk b3 nM12 [.int pz,.int 0,.double wv] [] 0 0 0 79 K (hw 179) (hw 181) (hw 50) (hw 180) (hw 182) (hw 11) (own_read0 @hw (by omega) h1 ⟨by omega,by omega⟩ ⟨hcc.1,by omega,by omega⟩) (lenOf pd_6 rfl) d27_76 ?_
   rintro _ _ ⟨rds',cvs',rc',hd',ea',cc',k0',k1',k2',z,rfl,rfl,hl1,hl2,hcase⟩
   rcases hcase with ⟨hz,hce,hrs'⟩|⟨hz,hce,hrs'⟩
   ·subst hz
    subst hce
    refine Hv 85 82 K d27_79 ?_
    obtain ⟨v85,ev85⟩:=oE (ii + Int32.ofInt 1 : Int32)
    refine G1 88 K d27_85 ev85 U5 ?_
    have tv85:=oIncK ev85 (by decide) (by omega)
    refine Yi 14 K d27_88 ?_
    exact IH14 (v85,(.val (.int pz) : Slot),(.val (.int 0) : Slot),rc',hd',ea',k0',k1',k2',rds',cvs') (by dsimp only; exact ⟨n' + 1,hrs',hl1.trans h2,hl2.trans h3,by omega,by omega,by omega,oUpTo h7 g29 (by omega) (by omega) (by omega),Or.inr ⟨_,rfl⟩,Or.inr ⟨_,rfl⟩⟩) (by dsimp only; omega)
   subst hz
   refine Ha 85 82 K d27_79 <|Yb 84 K d27_82 ?_
   exact Yq K d27_84 ⟨_,rfl,_,_,_,_,_,_,_,_,_,_,0,rfl,rfl,hl1.trans h2,hl2.trans h3,hrs',Or.inr ⟨by omega,by omega,hce,rfl⟩⟩
  ·subst hwz
   have twz' : ww54=1:=by have:=oTs; omega
   refine Yn 6 1 59 K d27_58 ?_
   refine oW.istore (Ls':=#[.val (.ref b3),.val (.int lo),.val (.int hi),.val (.double wv),.second,.val (.int ii),.val (.int pz),.val (.int 1)]) (pc':=61) K d27_59 (oStoreDead rfl f9 rfl) rfl ?_
   refine Yb 63 K d27_61 <|Ya 64 K d27_63 <|Yc 3 10 67 K (hw 57) d27_64 ?_
   refine Yy 85 70 K d27_67 <|Ya 71 K d27_70 <|Yb 73 K d27_71 <|Yb 75 K d27_73 <|Y1 76 K d27_75 ?_
   refine Gk b3 nM12 [.int pz,.int 1,.double wv] [] 0 0 0 79 K (hw 179) (hw 181) (hw 50) (hw 180) (hw 182) (hw 11) (own_read1 @hw (by omega) h1 ⟨by omega,by omega⟩ ⟨hcc.1,by omega,by omega⟩) (lenOf pd_6 rfl) d27_76 ?_
   rintro _ _ ⟨rds',cvs',rc',hd',ea',cc',k0',k1',k2',z,rfl,rfl,hl1,hl2,hcase⟩
   rcases hcase with ⟨hz,hce,hrs'⟩|⟨hz,hce,hrs'⟩
   ·subst hz
    subst hce
    refine Hv 85 82 K d27_79 ?_
    obtain ⟨v85,ev85⟩:=oE (ii + Int32.ofInt 1 : Int32)
    refine G1 88 K d27_85 ev85 U5 ?_
    have tv85:=oIncK ev85 (by decide) (by omega)
    refine Yi 14 K d27_88 ?_
    exact IH14 (v85,(.val (.int pz) : Slot),(.val (.int 1) : Slot),rc',hd',ea',k0',k1',k2',rds',cvs') (by dsimp only; exact ⟨n' + 1,hrs',hl1.trans h2,hl2.trans h3,by omega,by omega,by omega,oUpTo h7 g29 (by omega) (by omega) (by omega),Or.inr ⟨_,rfl⟩,Or.inr ⟨_,rfl⟩⟩) (by dsimp only; omega)
   subst hz
   refine Ha 85 82 K d27_79 <|Yb 84 K d27_82 ?_
   exact Yq K d27_84 ⟨_,rfl,_,_,_,_,_,_,_,_,_,_,0,rfl,rfl,hl1.trans h2,hl2.trans h3,hrs',Or.inr ⟨by omega,by omega,hce,rfl⟩⟩
  subst hwz
  have twz' : ww54=2:=by have:=oTs; omega
  refine Yn 6 2 59 K d27_58 ?_
  refine oW.istore (Ls':=#[.val (.ref b3),.val (.int lo),.val (.int hi),.val (.double wv),.second,.val (.int ii),.val (.int pz),.val (.int 2147483647)]) (pc':=61) K d27_59 (oStoreDead rfl f9 rfl) rfl ?_
  refine Yb 63 K d27_61 <|Ya 64 K d27_63 <|Yc 3 10 67 K (hw 57) d27_64 ?_
  refine Y8 85 70 K d27_67 ?_
  obtain ⟨v85,ev85⟩:=oE (ii + Int32.ofInt 1 : Int32)
  refine G1 88 K d27_85 ev85 U5 ?_
  have tv85:=oIncK ev85 (by decide) (by omega)
  refine Yi 14 K d27_88 ?_
  exact IH14 (v85,(.val (.int pz) : Slot),(.val (.int 2147483647) : Slot),rcL,hdL,eaL,k0L,k1L,k2L,rdsL,cvsL) (by dsimp only; exact ⟨n',h1,h2,h3,by omega,by omega,by omega,oUpTo h7 g29 (by omega) (by omega) (by omega),Or.inr ⟨_,rfl⟩,Or.inr ⟨_,rfl⟩⟩) (by dsimp only; omega)
 simp only [oLt32,oEq32,Int32.reduceToInt] at c38
 refine Yi 91 K d27_41 <|Yd 0 92 K d27_91 ?_
 exact Yq K d27_92 ⟨_,rfl,_,_,_,_,_,_,_,_,_,_,n',rfl,rfl,h2,h3,h1,Or.inl ⟨rfl,rfl,ii.toInt.toNat,by omega,by omega,fun i x h q=>h7 i x (by omega) q⟩⟩
theorem own_readS0 (hw : oHw a0 Z) {D0 D1 D2 D4 D5 D6 D7 D8 D10 D13 : oDsc} {f_an f_mc f_cn f_dl f_wi : Value} {po : Int32} {wv : UInt64} {iw : Int} (hwv : FP.Core.DInt iw wv) (hiw : 1≤iw) (hpo : 1≤po.toInt) {rds : List Int64} {cvs : List Value} (hrl : 1≤rds.length∧rds.length≤1000) (hcc : 0 < cvs.length) :
  oCtr l Z h0 [] nM11 prog_7_method_11_code 6 (some .boolean) (oR 2 0 0 32) #[.ref b3,.int po,.int 0,.double wv] [(b0,D0),(b1,D1),(b2,D2),(b3,oP b10 b13 b11 b12 b4 b5 b6 b7 b8 b9 (.int 1) f_an f_mc f_cn f_dl f_wi (.int 0) (.int 0) (.int 0) (.int 0)),(b4,D4),(b5,D5),(b6,D6),(b7,D7),(b8,D8),(b9,.inl (.int,[.int 0,.int 0,.int 0])),(b10,D10),(b11,.inl (.long,(rds.map Value.long))),(b12,.inl (.int,cvs)),(b13,D13)] (oVal fun w d=>∃ rds' : List Int64,w=.int 1∧d=[(b0,D0),(b1,D1),(b2,D2),(b3,oP b10 b13 b11 b12 b4 b5 b6 b7 b8 b9 (.int 1) f_an f_mc f_cn f_dl f_wi (.int 1) (.int 0) (.int 0) (.int 0)),(b4,D4),(b5,D5),(b6,D6),(b7,D7),(b8,D8),(b9,.inl (.int,[.int 0,.int 0,.int 0])),(b10,D10),(b11,.inl (.long,(rds'.map Value.long))),(b12,.inl (.int,(cvs.set 0 (.int 1)))),(b13,D13)]∧rds'.length=rds.length):=by
 refine oCo #[.val (.ref b3),.val (.int po),.val (.int 0),.val (.double wv),.second,.unset] ?_
 intro p e s m below meth c K
 refine Ya 1 K d33_0 <|Yc 3 2 4 K (hw 23) d33_1 <|Ya 5 K d33_4 ?_
 refine Yv 6 K d33_5 <|Yc 3 17 9 K (hw 149) d33_6 ?_
 refine Gg 10 K d33_9 <|Yd 1 11 K d33_10 ?_
 refine Ym 1 12 K d33_11 ?_
 refine Yl 3 17 .int 15 K (hw 149) (Or.inl (hw 150)) (hw 10) (oAp_0 @hw) d33_12 rfl rfl (P3 F17) <|Ye 16 K d33_15 <|Ye 17 K d33_16 ?_
 refine Yk [.int po,.int 0] [.int 0,.ref b11] 2 0 0 20 K (hw 183) (hw 89) (hw 86) (hw 90) (own_of @hw (by omega) (by decide)) (lenOf pd_2 rfl) d33_17 ?_
 rintro _ _ ⟨x17,rfl,tx17,rfl⟩
 have tx17' : x17.toInt=po.toInt * 4294967296 + 0:=by have:=oTs; omega
 have bpo:=oB32 po
 refine oW.lastoreJ (i:=11) (k:=0) (ds':=[(b0,D0),(b1,D1),(b2,D2),(b3,oP b10 b13 b11 b12 b4 b5 b6 b7 b8 b9 (.int 1) f_an f_mc f_cn f_dl f_wi (.int 0) (.int 1) (.int 0) (.int 0)),(b4,D4),(b5,D5),(b6,D6),(b7,D7),(b8,D8),(b9,.inl (.int,[.int 0,.int 0,.int 0])),(b10,D10),(b11,.inl (.long,((rds.set 0 x17).map Value.long))),(b12,.inl (.int,cvs)),(b13,D13)]) (pc':=21) K d33_20 rfl (by decide) (by omega) (by omega) rfl rfl ?_
 refine Ya 22 K d33_21 <|Yc 3 9 25 K (hw 45) d33_22 <|Ye 26 K d33_25 <|Yn 9 0 27 K d33_26 ?_
 refine Gc 40 30 K d33_27 <|Ya 31 K d33_30 ?_
 refine Yv 32 K d33_31 <|Yc 3 18 35 K (hw 151) d33_32 <|Yd 1 36 K d33_35 ?_
 refine Ym 1 37 K d33_36 ?_
 refine Yl 3 18 .int 40 K (hw 151) (Or.inl (hw 152)) (hw 10) (oAp_0 @hw) d33_37 rfl rfl (P3 F18) <|Ya 41 K d33_40 <|Yc 3 9 44 K (hw 45) d33_41 <|Ye 45 K d33_44 <|Ye 46 K d33_45 ?_
 refine Yr 9 0 47 K d33_46 rfl (S9 T0) <|Ya 48 K d33_47 <|Yc 3 18 51 K (hw 151) d33_48 <|Ya 52 K d33_51 <|Yc 3 10 55 K (hw 57) d33_52 ?_
 refine Y8 60 58 K d33_55 <|Ya 61 K d33_60 <|Yc 3 9 64 K (hw 45) d33_61 <|Ya 65 K d33_64 <|Yc 3 2 68 K (hw 23) d33_65 <|Ya 69 K d33_68 <|Yc 3 19 72 K (hw 153) d33_69 ?_
 refine oW.laloadJ (i:=11) (k:=0) (pc':=73) K d33_72 rfl (by decide) (by omega) (oSetAt (by omega)) rfl ?_
 refine Yk [.long x17] [.ref b9] 1 0 0 76 K (hw 176) (hw 177) (hw 86) (hw 178) (own_word @hw tx17' (by decide)) (lenOf pd_3 rfl) d33_73 ?_
 rintro _ _ ⟨wz,rfl,twz,rfl⟩
 obtain rfl : wz=(0 : Int32):=oEq32.mpr (by rw [twz]; decide)
 refine Yn 9 0 77 K d33_76 <|Ya 78 K d33_77 <|Yc 3 2 81 K (hw 23) d33_78 <|Ya 82 K d33_81 <|Yc 3 19 85 K (hw 153) d33_82 ?_
 refine oW.laloadJ (i:=11) (k:=0) (pc':=86) K d33_85 rfl (by decide) (by omega) (oSetAt (by omega)) rfl ?_
 refine Yk [.long x17] [.int po] 1 0 0 89 K (hw 173) (hw 174) (hw 86) (hw 175) (own_position @hw tx17' (by omega) (by decide)) (lenOf pd_3 rfl) d33_86 ?_
 rintro _ _ ⟨pz,rfl,tpz,rfl⟩
 have qpz : po=pz:=oEq32.mpr (by omega)
 subst qpz
 refine oW.icmp_eq (pc':=105) (pc3:=92) K d33_89 (by decide) (by decide) rfl (fun c89=>?_) (fun q=>absurd rfl q)
 refine Ye 106 K d33_105 <|Ya 107 K d33_106 <|Yc 3 2 110 K (hw 23) d33_107 <|Ya 111 K d33_110 <|Yc 3 19 114 K (hw 153) d33_111 ?_
 refine oW.laloadJ (i:=11) (k:=0) (pc':=115) K d33_114 rfl (by decide) (by omega) (oSetAt (by omega)) rfl ?_
 refine Yk [.long x17] [.int po] 1 0 0 118 K (hw 173) (hw 174) (hw 86) (hw 175) (own_position @hw tx17' (by omega) (by decide)) (lenOf pd_3 rfl) d33_115 ?_
 rintro _ _ ⟨pw,rfl,tpw,rfl⟩
 have qpw : po=pw:=oEq32.mpr (by omega)
 subst qpw
 obtain ⟨v118,ev118⟩:=oE (po - po : Int32)
 refine Y9 119 K d33_118 ev118 ?_
 have tv118:=oIsub ev118 oOm
 try simp only [Int32.reduceToInt,Int64.reduceToInt] at tv118
 refine Yd 1 120 K d33_119 ?_
 obtain ⟨v120,ev120⟩:=oE (v118 + (1 : Int32) : Int32)
 refine Y0 121 K d33_120 ev120 ?_
 have tv120:=oIadd ev120 oOm
 try simp only [Int32.reduceToInt,Int64.reduceToInt] at tv120
 obtain rfl : v120=(1 : Int32):=oEq32.mpr (by have:=oTs; omega)
 refine Yj 123 K d33_121 U5 <|Yb 125 K d33_123 ?_
 refine G2 (4607182418800017408 : UInt64) 126 K d33_125 <|Y1 127 K d33_126 ?_
 obtain ⟨v127,ev127⟩:=oE (cmpValue (FP.dcmp (4607182418800017408 : UInt64) wv) .l : Int32)
 refine Gi 128 K d33_127 ev127 ?_
 refine oW.if_le (pc':=133) (pc3:=131) K d33_128 (by decide) (by decide) rfl (fun c128=>?_) (fun q=>absurd ((oCmp (oDK 1 (by decide +kernel) (by decide)) hwv ev127).2.2.mp q) (by omega))
 refine Ya 134 K d33_133 <|Yc 3 3 137 K (hw 25) d33_134 <|Ya 138 K d33_137 ?_
 refine Yv 139 K d33_138 <|Yc 3 16 142 K (hw 143) d33_139 ?_
 refine Gg 143 K d33_142 <|Yd 1 144 K d33_143 ?_
 refine Ym 1 145 K d33_144 ?_
 refine Yl 3 16 .int 148 K (hw 143) (Or.inl (hw 144)) (hw 10) (oAp_0 @hw) d33_145 rfl rfl (P3 F16) <|Yb 150 K d33_148 ?_
 refine oW.iastore (i:=12) (k:=0) (ds':=[(b0,D0),(b1,D1),(b2,D2),(b3,oP b10 b13 b11 b12 b4 b5 b6 b7 b8 b9 (.int 1) f_an f_mc f_cn f_dl f_wi (.int 1) (.int 1) (.int 1) (.int 0)),(b4,D4),(b5,D5),(b6,D6),(b7,D7),(b8,D8),(b9,.inl (.int,[.int po,.int 0,.int 0])),(b10,D10),(b11,.inl (.long,((rds.set 0 x17).map Value.long))),(b12,.inl (.int,(cvs.set 0 (.int 1)))),(b13,D13)]) (pc':=151) K d33_150 rfl (by decide) (by omega) (by omega) rfl rfl ?_
 refine Ya 152 K d33_151 ?_
 refine Ge b3 nM12 [] [] 0 0 0 155 K (hw 145) (hw 147) (hw 50) (hw 146) (hw 148) (hw 11) (own_restart @hw (n:=1) (by decide) (by rw [List.length_set]; omega) (oEnt.z.set (by omega) tx17' (by omega) (by decide)) (oKp.new (by omega) tx17') oKp.z (by decide)) (lenOf pd_4 rfl) d33_152 ?_
 rintro _ rfl
 refine Yd 1 156 K d33_155 ?_
 exact Y5 K d33_156 ⟨_,rfl,_,rfl,rfl,by simp⟩
theorem own_readS1 (hw : oHw a0 Z) {D0 D1 D2 D4 D5 D6 D7 D8 D10 D13 : oDsc} {f_an f_mc f_cn f_dl f_wi : Value} {po : Int32} {wv : UInt64} {iw : Int} (hwv : FP.Core.DInt iw wv) (hiw : 1≤iw) (hpo : 1≤po.toInt) {rds : List Int64} {cvs : List Value} (hrl : 1≤rds.length∧rds.length≤1000) (hcc : 1 < cvs.length) :
  oCtr l Z h0 [] nM11 prog_7_method_11_code 6 (some .boolean) (oR 2 0 0 32) #[.ref b3,.int po,.int 0,.double wv] [(b0,D0),(b1,D1),(b2,D2),(b3,oP b10 b13 b11 b12 b4 b5 b6 b7 b8 b9 (.int 1) f_an f_mc f_cn f_dl f_wi (.int 1) (.int 0) (.int 0) (.int 0)),(b4,D4),(b5,D5),(b6,D6),(b7,D7),(b8,D8),(b9,.inl (.int,[.int 0,.int 0,.int 0])),(b10,D10),(b11,.inl (.long,(rds.map Value.long))),(b12,.inl (.int,cvs)),(b13,D13)] (oVal fun w d=>∃ rds' : List Int64,w=.int 1∧d=[(b0,D0),(b1,D1),(b2,D2),(b3,oP b10 b13 b11 b12 b4 b5 b6 b7 b8 b9 (.int 1) f_an f_mc f_cn f_dl f_wi (.int 2) (.int 0) (.int 0) (.int 0)),(b4,D4),(b5,D5),(b6,D6),(b7,D7),(b8,D8),(b9,.inl (.int,[.int 0,.int 0,.int 0])),(b10,D10),(b11,.inl (.long,(rds'.map Value.long))),(b12,.inl (.int,(cvs.set 1 (.int 1)))),(b13,D13)]∧rds'.length=rds.length):=by
 refine oCo #[.val (.ref b3),.val (.int po),.val (.int 0),.val (.double wv),.second,.unset] ?_
 intro p e s m below meth c K
 refine Ya 1 K d33_0 <|Yc 3 2 4 K (hw 23) d33_1 <|Ya 5 K d33_4 ?_
 refine Yv 6 K d33_5 <|Yc 3 17 9 K (hw 149) d33_6 ?_
 refine Gg 10 K d33_9 <|Yd 1 11 K d33_10 ?_
 refine Ym 1 12 K d33_11 ?_
 refine Yl 3 17 .int 15 K (hw 149) (Or.inl (hw 150)) (hw 10) (oAp_0 @hw) d33_12 rfl rfl (P3 F17) <|Ye 16 K d33_15 <|Ye 17 K d33_16 ?_
 refine Yk [.int po,.int 0] [.int 0,.ref b11] 2 0 0 20 K (hw 183) (hw 89) (hw 86) (hw 90) (own_of @hw (by omega) (by decide)) (lenOf pd_2 rfl) d33_17 ?_
 rintro _ _ ⟨x17,rfl,tx17,rfl⟩
 have tx17' : x17.toInt=po.toInt * 4294967296 + 0:=by have:=oTs; omega
 have bpo:=oB32 po
 refine oW.lastoreJ (i:=11) (k:=0) (ds':=[(b0,D0),(b1,D1),(b2,D2),(b3,oP b10 b13 b11 b12 b4 b5 b6 b7 b8 b9 (.int 1) f_an f_mc f_cn f_dl f_wi (.int 1) (.int 1) (.int 0) (.int 0)),(b4,D4),(b5,D5),(b6,D6),(b7,D7),(b8,D8),(b9,.inl (.int,[.int 0,.int 0,.int 0])),(b10,D10),(b11,.inl (.long,((rds.set 0 x17).map Value.long))),(b12,.inl (.int,cvs)),(b13,D13)]) (pc':=21) K d33_20 rfl (by decide) (by omega) (by omega) rfl rfl ?_
 refine Ya 22 K d33_21 <|Yc 3 9 25 K (hw 45) d33_22 <|Ye 26 K d33_25 <|Yn 9 0 27 K d33_26 ?_
 refine Gc 40 30 K d33_27 <|Ya 31 K d33_30 ?_
 refine Yv 32 K d33_31 <|Yc 3 18 35 K (hw 151) d33_32 <|Yd 1 36 K d33_35 ?_
 refine Ym 1 37 K d33_36 ?_
 refine Yl 3 18 .int 40 K (hw 151) (Or.inl (hw 152)) (hw 10) (oAp_0 @hw) d33_37 rfl rfl (P3 F18) <|Ya 41 K d33_40 <|Yc 3 9 44 K (hw 45) d33_41 <|Ye 45 K d33_44 <|Ye 46 K d33_45 ?_
 refine Yr 9 0 47 K d33_46 rfl (S9 T0) <|Ya 48 K d33_47 <|Yc 3 18 51 K (hw 151) d33_48 <|Ya 52 K d33_51 <|Yc 3 10 55 K (hw 57) d33_52 ?_
 refine Y8 60 58 K d33_55 <|Ya 61 K d33_60 <|Yc 3 9 64 K (hw 45) d33_61 <|Ya 65 K d33_64 <|Yc 3 2 68 K (hw 23) d33_65 <|Ya 69 K d33_68 <|Yc 3 19 72 K (hw 153) d33_69 ?_
 refine oW.laloadJ (i:=11) (k:=0) (pc':=73) K d33_72 rfl (by decide) (by omega) (oSetAt (by omega)) rfl ?_
 refine Yk [.long x17] [.ref b9] 1 0 0 76 K (hw 176) (hw 177) (hw 86) (hw 178) (own_word @hw tx17' (by decide)) (lenOf pd_3 rfl) d33_73 ?_
 rintro _ _ ⟨wz,rfl,twz,rfl⟩
 obtain rfl : wz=(0 : Int32):=oEq32.mpr (by rw [twz]; decide)
 refine Yn 9 0 77 K d33_76 <|Ya 78 K d33_77 <|Yc 3 2 81 K (hw 23) d33_78 <|Ya 82 K d33_81 <|Yc 3 19 85 K (hw 153) d33_82 ?_
 refine oW.laloadJ (i:=11) (k:=0) (pc':=86) K d33_85 rfl (by decide) (by omega) (oSetAt (by omega)) rfl ?_
 refine Yk [.long x17] [.int po] 1 0 0 89 K (hw 173) (hw 174) (hw 86) (hw 175) (own_position @hw tx17' (by omega) (by decide)) (lenOf pd_3 rfl) d33_86 ?_
 rintro _ _ ⟨pz,rfl,tpz,rfl⟩
 have qpz : po=pz:=oEq32.mpr (by omega)
 subst qpz
 refine oW.icmp_eq (pc':=105) (pc3:=92) K d33_89 (by decide) (by decide) rfl (fun c89=>?_) (fun q=>absurd rfl q)
 refine Ye 106 K d33_105 <|Ya 107 K d33_106 <|Yc 3 2 110 K (hw 23) d33_107 <|Ya 111 K d33_110 <|Yc 3 19 114 K (hw 153) d33_111 ?_
 refine oW.laloadJ (i:=11) (k:=0) (pc':=115) K d33_114 rfl (by decide) (by omega) (oSetAt (by omega)) rfl ?_
 refine Yk [.long x17] [.int po] 1 0 0 118 K (hw 173) (hw 174) (hw 86) (hw 175) (own_position @hw tx17' (by omega) (by decide)) (lenOf pd_3 rfl) d33_115 ?_
 rintro _ _ ⟨pw,rfl,tpw,rfl⟩
 have qpw : po=pw:=oEq32.mpr (by omega)
 subst qpw
 obtain ⟨v118,ev118⟩:=oE (po - po : Int32)
 refine Y9 119 K d33_118 ev118 ?_
 have tv118:=oIsub ev118 oOm
 try simp only [Int32.reduceToInt,Int64.reduceToInt] at tv118
 refine Yd 1 120 K d33_119 ?_
 obtain ⟨v120,ev120⟩:=oE (v118 + (1 : Int32) : Int32)
 refine Y0 121 K d33_120 ev120 ?_
 have tv120:=oIadd ev120 oOm
 try simp only [Int32.reduceToInt,Int64.reduceToInt] at tv120
 obtain rfl : v120=(1 : Int32):=oEq32.mpr (by have:=oTs; omega)
 refine Yj 123 K d33_121 U5 <|Yb 125 K d33_123 ?_
 refine G2 (4607182418800017408 : UInt64) 126 K d33_125 <|Y1 127 K d33_126 ?_
 obtain ⟨v127,ev127⟩:=oE (cmpValue (FP.dcmp (4607182418800017408 : UInt64) wv) .l : Int32)
 refine Gi 128 K d33_127 ev127 ?_
 refine oW.if_le (pc':=133) (pc3:=131) K d33_128 (by decide) (by decide) rfl (fun c128=>?_) (fun q=>absurd ((oCmp (oDK 1 (by decide +kernel) (by decide)) hwv ev127).2.2.mp q) (by omega))
 refine Ya 134 K d33_133 <|Yc 3 3 137 K (hw 25) d33_134 <|Ya 138 K d33_137 ?_
 refine Yv 139 K d33_138 <|Yc 3 16 142 K (hw 143) d33_139 ?_
 refine Gg 143 K d33_142 <|Yd 1 144 K d33_143 ?_
 refine Ym 2 145 K d33_144 ?_
 refine Yl 3 16 .int 148 K (hw 143) (Or.inl (hw 144)) (hw 10) (oAp_0 @hw) d33_145 rfl rfl (P3 F16) <|Yb 150 K d33_148 ?_
 refine oW.iastore (i:=12) (k:=1) (ds':=[(b0,D0),(b1,D1),(b2,D2),(b3,oP b10 b13 b11 b12 b4 b5 b6 b7 b8 b9 (.int 1) f_an f_mc f_cn f_dl f_wi (.int 2) (.int 1) (.int 1) (.int 0)),(b4,D4),(b5,D5),(b6,D6),(b7,D7),(b8,D8),(b9,.inl (.int,[.int po,.int 0,.int 0])),(b10,D10),(b11,.inl (.long,((rds.set 0 x17).map Value.long))),(b12,.inl (.int,(cvs.set 1 (.int 1)))),(b13,D13)]) (pc':=151) K d33_150 rfl (by decide) (by omega) (by omega) rfl rfl ?_
 refine Ya 152 K d33_151 ?_
 refine Ge b3 nM12 [] [] 0 0 0 155 K (hw 145) (hw 147) (hw 50) (hw 146) (hw 148) (hw 11) (own_restart @hw (n:=1) (by decide) (by rw [List.length_set]; omega) (oEnt.z.set (by omega) tx17' (by omega) (by decide)) (oKp.new (by omega) tx17') oKp.z (by decide)) (lenOf pd_4 rfl) d33_152 ?_
 rintro _ rfl
 refine Yd 1 156 K d33_155 ?_
 exact Y5 K d33_156 ⟨_,rfl,_,rfl,rfl,by simp⟩
theorem own_rr1_0 (hw : oHw a0 Z) {D0 D1 D2 D4 D5 D7 D8 D13 : oDsc} {f_an f_mc f_dl f_wi : Value} {ocs : List Int64} {cnt : Nat} {cn : Int32} (hcn : cn.toInt=(cnt : Int)) (hO : oEnt ocs cnt 2) (hs : oSrt ocs cnt) (hol : ocs.length≤1000) {rds : List Int64} {cvs : List Value} {r0 r1 r2 lo hi : Int32} {wv : UInt64} {iw ch yy : Int} {ti : Nat} {tx : Int64} (hwv : FP.Core.DInt iw wv) (hiw : 1≤iw) (hrl : 1≤rds.length∧rds.length≤1000) (hcc : 0 < cvs.length) (hch : 0≤ch∧ch≤2) (hr0 : (r0.toInt=0∧ch=0)∨(1≤r0.toInt∧ch ≠ 0)) (hr1 : (r1.toInt=0∧ch=1)∨(1≤r1.toInt∧ch ≠ 1)) (hr2 : (r2.toInt=0∧ch=2)∨(1≤r2.toInt∧ch ≠ 2)) (hlo : 1≤lo.toInt) (hly : lo.toInt≤yy∧yy≤hi.toInt) (ht1 : ti < cnt) (ht2 : ocs[ti]?=some tx) (ht3 : tx.toInt=yy * 4294967296 + ch) (hC : ∀ (i : Nat) (x : Int64) (p : Int),i < cnt→ocs[i]?=some x→x.toInt=p * 4294967296 + ch→lo.toInt≤p→yy≤p) :
  oCtr l Z h0 [] nM13 prog_7_method_9_code 8 (some .int) (oR 3 0 0 64) #[.ref b3,.int lo,.int hi,.double wv] [(b0,D0),(b1,D1),(b2,D2),(b3,oP b10 b13 b11 b12 b4 b5 b6 b7 b8 b9 (.int 1) f_an f_mc (.int cn) f_dl f_wi (.int 0) (.int 0) (.int 0) (.int 0)),(b4,D4),(b5,D5),(b6,.inl (.int,[.int r0,.int r1,.int r2])),(b7,D7),(b8,D8),(b9,.inl (.int,[.int 0,.int 0,.int 0])),(b10,.inl (.long,(ocs.map Value.long))),(b11,.inl (.long,(rds.map Value.long))),(b12,.inl (.int,cvs)),(b13,D13)] (oVal fun w d=>∃ (rds' : List Int64) (z : Int32),w=.int z∧d=[(b0,D0),(b1,D1),(b2,D2),(b3,oP b10 b13 b11 b12 b4 b5 b6 b7 b8 b9 (.int 1) f_an f_mc (.int cn) f_dl f_wi (.int 1) (.int 0) (.int 0) (.int 0)),(b4,D4),(b5,D5),(b6,.inl (.int,[.int r0,.int r1,.int r2])),(b7,D7),(b8,D8),(b9,.inl (.int,[.int 0,.int 0,.int 0])),(b10,.inl (.long,(ocs.map Value.long))),(b11,.inl (.long,(rds'.map Value.long))),(b12,.inl (.int,(cvs.set 0 (.int 1)))),(b13,D13)]∧rds'.length=rds.length∧z.toInt=yy):=by
 refine oCo #[.val (.ref b3),.val (.int lo),.val (.int hi),.val (.double wv),.second,.unset,.unset,.unset] ?_
 intro p e s m below meth c K
 have hO1:=hO.1
 refine Ya 1 K d27_0 <|Yc 3 0 4 K (hw 19) d27_1 <|Ya 5 K d27_4 <|Yc 3 13 8 K (hw 63) d27_5 <|Ye 9 K d27_8 ?_
 refine Yk [.ref b10,.int cn,.int lo] [] 0 0 0 12 K (hw 164) (hw 165) (hw 86) (hw 166) (own_first @hw (ix:=10) rfl hcn hO.1 hol hs (by omega)) (lenOf pd_5 rfl) d27_9 ?_
 rintro _ _ ⟨fz,r,rfl,tfz,hcut,rfl⟩
 have hrn:=hcut.1
 refine Yj 14 K d27_12 U5 ?_
 refine oW.loop (F:=fun z : Int32 × Slot × Slot=>(r : Int)≤z.1.toInt∧z.1.toInt≤(cnt : Int)∧(∀ (j : Nat) (x : Int64) (p : Int),(j : Int) < z.1.toInt→ocs[j]?=some x→x.toInt=p * 4294967296 + ch→p < lo.toInt)∧oDead z.2.1∧oDead z.2.2) (mu:=fun z=>cnt - z.1.toInt.toNat) (pcj:=14) (Lf:=fun z=>#[.val (.ref b3),.val (.int lo),.val (.int hi),.val (.double wv),.second,.val (.int z.1),z.2.1,z.2.2]) (Sf:=fun z=>[]) (dsf:=fun z=>[(b0,D0),(b1,D1),(b2,D2),(b3,oP b10 b13 b11 b12 b4 b5 b6 b7 b8 b9 (.int 1) f_an f_mc (.int cn) f_dl f_wi (.int 0) (.int 0) (.int 0) (.int 0)),(b4,D4),(b5,D5),(b6,.inl (.int,[.int r0,.int r1,.int r2])),(b7,D7),(b8,D8),(b9,.inl (.int,[.int 0,.int 0,.int 0])),(b10,.inl (.long,(ocs.map Value.long))),(b11,.inl (.long,(rds.map Value.long))),(b12,.inl (.int,cvs)),(b13,D13)]) ?_ (fz,(.unset : Slot),(.unset : Slot)) (by dsimp only; exact ⟨by omega,by omega,fun j x p h q e=>by have:=hcut.2.1 j x (by omega) q; omega,Or.inl rfl,Or.inl rfl⟩)
 rintro ⟨ii,s1,s2⟩ hF14 IH14
 dsimp only at hF14 IH14 ⊢
 obtain ⟨f1,f2,f3,f8,f9⟩:=hF14
 refine Yb 16 K d27_14 <|Ya 17 K d27_16 <|Yc 3 13 20 K (hw 63) d27_17 ?_
 refine oW.icmp_ge (pc':=91) (pc3:=23) K d27_20 (by decide) (by decide) rfl (fun q=>(by simp only [oLt32] at q; have:=f3 ti tx yy (by omega) ht2 ht3; omega)) (fun c20=>?_)
 simp only [oLt32] at c20
 refine Ya 24 K d27_23 <|Yc 3 0 27 K (hw 19) d27_24 <|Yb 29 K d27_27 ?_
 obtain ⟨x29,g29⟩:=oHas (xs:=ocs) (k:=ii.toInt.toNat) (by omega)
 obtain ⟨pp29,ww29,e1_29,e2_29,e3_29,e4_29,e5_29⟩:=hO.2 _ _ (by omega) g29
 have hle29 : x29.toInt≤yy * 4294967296 + ch:=by have hge : ii.toInt≤(ti : Int):=Int.not_lt.mp fun q=>(by have:=f3 ti tx yy q ht2 ht3; omega); have h1:=oAtLeast hs g29 (by omega) ht1 ht2; omega
 refine oW.laloadJ (i:=10) (k:=ii.toInt.toNat) (pc':=30) K d27_29 rfl (oIdx (by omega)) (by omega) g29 rfl ?_
 refine Yk [.long x29] [] 0 0 0 33 K (hw 173) (hw 174) (hw 86) (hw 175) (own_position @hw e1_29 ⟨by omega,e3_29⟩ ⟨e4_29,by omega⟩) (lenOf pd_3 rfl) d27_30 ?_
 rintro _ _ ⟨pz,rfl,tpz,rfl⟩
 refine oW.istore (Ls':=#[.val (.ref b3),.val (.int lo),.val (.int hi),.val (.double wv),.second,.val (.int ii),.val (.int pz),s2]) (pc':=35) K d27_33 (oStoreDead rfl f8 rfl) rfl ?_
 refine Yb 37 K d27_35 <|Ye 38 K d27_37 ?_
 refine oW.icmp_le (pc':=44) (pc3:=41) K d27_38 (by decide) (by decide) rfl (fun c38=>?_) (fun q=>(by simp only [oLt32] at q; omega))
 simp only [oLt32] at c38
 refine Ya 45 K d27_44 <|Yc 3 6 48 K (hw 32) d27_45 <|Ya 49 K d27_48 <|Yc 3 0 52 K (hw 19) d27_49 <|Yb 54 K d27_52 ?_
 obtain ⟨x54,g54⟩:=oHas (xs:=ocs) (k:=ii.toInt.toNat) (by omega)
 obtain ⟨pp54,ww54,e1_54,e2_54,e3_54,e4_54,e5_54⟩:=hO.2 _ _ (by omega) g54
 refine oW.laloadJ (i:=10) (k:=ii.toInt.toNat) (pc':=55) K d27_54 rfl (oIdx (by omega)) (by omega) g54 rfl ?_
 refine Yk [.long x54] [.ref b6] 1 0 0 58 K (hw 176) (hw 177) (hw 86) (hw 178) (own_word @hw e1_54 ⟨e4_54,by omega⟩) (lenOf pd_3 rfl) d27_55 ?_
 rintro _ _ ⟨wz,rfl,twz,rfl⟩
 have hwz : wz=0∨wz=1∨wz=2:=by simp only [oEq32,Int32.reduceToInt]; omega
 rcases hwz with hwz|hwz|hwz
 ·subst hwz
  have twz' : ww54=0:=by have:=oTs; omega
  refine Yn 6 0 59 K d27_58 ?_
  refine oW.istore (Ls':=#[.val (.ref b3),.val (.int lo),.val (.int hi),.val (.double wv),.second,.val (.int ii),.val (.int pz),.val (.int r0)]) (pc':=61) K d27_59 (oStoreDead rfl f9 rfl) rfl ?_
  refine Yb 63 K d27_61 <|Ya 64 K d27_63 <|Yc 3 10 67 K (hw 57) d27_64 ?_
  refine Gm 85 70 K d27_67 (fun c67=>?_) (fun c67=>?_)
  ·simp only [oLt32,oEq32,Int32.reduceToInt] at c67
   obtain ⟨v85,ev85⟩:=oE (ii + Int32.ofInt 1 : Int32)
   refine G1 88 K d27_85 ev85 U5 ?_
   have tv85:=oIncK ev85 (by decide) (by omega)
   refine Yi 14 K d27_88 ?_
   exact IH14 (v85,(.val (.int pz) : Slot),(.val (.int r0) : Slot)) (by dsimp only; exact ⟨by omega,by omega,oUpTo3 f3 g54 (by omega) (by omega) (fun p e=>by omega),Or.inr ⟨_,rfl⟩,Or.inr ⟨_,rfl⟩⟩) (by dsimp only; omega)
  simp only [oLt32,oEq32,Int32.reduceToInt] at c67
  have hch : ch=0:=by have:=oTs; omega
  obtain rfl : r0=(0 : Int32):=oEq32.mpr (by have:=oTs; omega)
  have hpy : pp29=yy:=by have h1:=hcut.2.2 ii.toInt.toNat x29 (by omega) (by omega) g29; have h2:=hC ii.toInt.toNat x29 pp29 (by omega) g29 (by have h3:=Option.some.inj (g29.symm.trans g54); subst h3; omega) (by omega); omega
  refine Ya 71 K d27_70 <|Yb 73 K d27_71 <|Yb 75 K d27_73 <|Y1 76 K d27_75 ?_
  refine Gk b3 nM12 [.int pz,.int 0,.double wv] [] 0 0 0 79 K (hw 179) (hw 181) (hw 50) (hw 180) (hw 182) (hw 11) (own_readS0 @hw hwv hiw (by omega) (by omega) (by omega)) (lenOf pd_6 rfl) d27_76 ?_
  rintro _ _ ⟨rds',rfl,rfl,hl1⟩
  refine Ha 85 82 K d27_79 <|Yb 84 K d27_82 ?_
  exact Yq K d27_84 ⟨_,rfl,_,_,rfl,rfl,hl1,by omega⟩
 ·subst hwz
  have twz' : ww54=1:=by have:=oTs; omega
  refine Yn 6 1 59 K d27_58 ?_
  refine oW.istore (Ls':=#[.val (.ref b3),.val (.int lo),.val (.int hi),.val (.double wv),.second,.val (.int ii),.val (.int pz),.val (.int r1)]) (pc':=61) K d27_59 (oStoreDead rfl f9 rfl) rfl ?_
  refine Yb 63 K d27_61 <|Ya 64 K d27_63 <|Yc 3 10 67 K (hw 57) d27_64 ?_
  refine Gm 85 70 K d27_67 (fun c67=>?_) (fun c67=>?_)
  ·simp only [oLt32,oEq32,Int32.reduceToInt] at c67
   obtain ⟨v85,ev85⟩:=oE (ii + Int32.ofInt 1 : Int32)
   refine G1 88 K d27_85 ev85 U5 ?_
   have tv85:=oIncK ev85 (by decide) (by omega)
   refine Yi 14 K d27_88 ?_
   exact IH14 (v85,(.val (.int pz) : Slot),(.val (.int r1) : Slot)) (by dsimp only; exact ⟨by omega,by omega,oUpTo3 f3 g54 (by omega) (by omega) (fun p e=>by omega),Or.inr ⟨_,rfl⟩,Or.inr ⟨_,rfl⟩⟩) (by dsimp only; omega)
  simp only [oLt32,oEq32,Int32.reduceToInt] at c67
  have hch : ch=1:=by have:=oTs; omega
  obtain rfl : r1=(0 : Int32):=oEq32.mpr (by have:=oTs; omega)
  have hpy : pp29=yy:=by have h1:=hcut.2.2 ii.toInt.toNat x29 (by omega) (by omega) g29; have h2:=hC ii.toInt.toNat x29 pp29 (by omega) g29 (by have h3:=Option.some.inj (g29.symm.trans g54); subst h3; omega) (by omega); omega
  refine Ya 71 K d27_70 <|Yb 73 K d27_71 <|Yb 75 K d27_73 <|Y1 76 K d27_75 ?_
  refine Gk b3 nM12 [.int pz,.int 0,.double wv] [] 0 0 0 79 K (hw 179) (hw 181) (hw 50) (hw 180) (hw 182) (hw 11) (own_readS0 @hw hwv hiw (by omega) (by omega) (by omega)) (lenOf pd_6 rfl) d27_76 ?_
  rintro _ _ ⟨rds',rfl,rfl,hl1⟩
  refine Ha 85 82 K d27_79 <|Yb 84 K d27_82 ?_
  exact Yq K d27_84 ⟨_,rfl,_,_,rfl,rfl,hl1,by omega⟩
 subst hwz
 have twz' : ww54=2:=by have:=oTs; omega
 refine Yn 6 2 59 K d27_58 ?_
 refine oW.istore (Ls':=#[.val (.ref b3),.val (.int lo),.val (.int hi),.val (.double wv),.second,.val (.int ii),.val (.int pz),.val (.int r2)]) (pc':=61) K d27_59 (oStoreDead rfl f9 rfl) rfl ?_
 refine Yb 63 K d27_61 <|Ya 64 K d27_63 <|Yc 3 10 67 K (hw 57) d27_64 ?_
 refine Gm 85 70 K d27_67 (fun c67=>?_) (fun c67=>?_)
 ·simp only [oLt32,oEq32,Int32.reduceToInt] at c67
  obtain ⟨v85,ev85⟩:=oE (ii + Int32.ofInt 1 : Int32)
  refine G1 88 K d27_85 ev85 U5 ?_
  have tv85:=oIncK ev85 (by decide) (by omega)
  refine Yi 14 K d27_88 ?_
  exact IH14 (v85,(.val (.int pz) : Slot),(.val (.int r2) : Slot)) (by dsimp only; exact ⟨by omega,by omega,oUpTo3 f3 g54 (by omega) (by omega) (fun p e=>by omega),Or.inr ⟨_,rfl⟩,Or.inr ⟨_,rfl⟩⟩) (by dsimp only; omega)
 simp only [oLt32,oEq32,Int32.reduceToInt] at c67
 have hch : ch=2:=by have:=oTs; omega
 obtain rfl : r2=(0 : Int32):=oEq32.mpr (by have:=oTs; omega)
 have hpy : pp29=yy:=by have h1:=hcut.2.2 ii.toInt.toNat x29 (by omega) (by omega) g29; have h2:=hC ii.toInt.toNat x29 pp29 (by omega) g29 (by have h3:=Option.some.inj (g29.symm.trans g54); subst h3; omega) (by omega); omega
 refine Ya 71 K d27_70 <|Yb 73 K d27_71 <|Yb 75 K d27_73 <|Y1 76 K d27_75 ?_
 refine Gk b3 nM12 [.int pz,.int 0,.double wv] [] 0 0 0 79 K (hw 179) (hw 181) (hw 50) (hw 180) (hw 182) (hw 11) (own_readS0 @hw hwv hiw (by omega) (by omega) (by omega)) (lenOf pd_6 rfl) d27_76 ?_
 rintro _ _ ⟨rds',rfl,rfl,hl1⟩
 refine Ha 85 82 K d27_79 <|Yb 84 K d27_82 ?_
 exact Yq K d27_84 ⟨_,rfl,_,_,rfl,rfl,hl1,by omega⟩
theorem own_rr1_1 (hw : oHw a0 Z) {D0 D1 D2 D4 D5 D7 D8 D13 : oDsc} {f_an f_mc f_dl f_wi : Value} {ocs : List Int64} {cnt : Nat} {cn : Int32} (hcn : cn.toInt=(cnt : Int)) (hO : oEnt ocs cnt 2) (hs : oSrt ocs cnt) (hol : ocs.length≤1000) {rds : List Int64} {cvs : List Value} {r0 r1 r2 lo hi : Int32} {wv : UInt64} {iw ch yy : Int} {ti : Nat} {tx : Int64} (hwv : FP.Core.DInt iw wv) (hiw : 1≤iw) (hrl : 1≤rds.length∧rds.length≤1000) (hcc : 1 < cvs.length) (hch : 0≤ch∧ch≤2) (hr0 : (r0.toInt=0∧ch=0)∨(1≤r0.toInt∧ch ≠ 0)) (hr1 : (r1.toInt=0∧ch=1)∨(1≤r1.toInt∧ch ≠ 1)) (hr2 : (r2.toInt=0∧ch=2)∨(1≤r2.toInt∧ch ≠ 2)) (hlo : 1≤lo.toInt) (hly : lo.toInt≤yy∧yy≤hi.toInt) (ht1 : ti < cnt) (ht2 : ocs[ti]?=some tx) (ht3 : tx.toInt=yy * 4294967296 + ch) (hC : ∀ (i : Nat) (x : Int64) (p : Int),i < cnt→ocs[i]?=some x→x.toInt=p * 4294967296 + ch→lo.toInt≤p→yy≤p) :
  oCtr l Z h0 [] nM13 prog_7_method_9_code 8 (some .int) (oR 3 0 0 64) #[.ref b3,.int lo,.int hi,.double wv] [(b0,D0),(b1,D1),(b2,D2),(b3,oP b10 b13 b11 b12 b4 b5 b6 b7 b8 b9 (.int 1) f_an f_mc (.int cn) f_dl f_wi (.int 1) (.int 0) (.int 0) (.int 0)),(b4,D4),(b5,D5),(b6,.inl (.int,[.int r0,.int r1,.int r2])),(b7,D7),(b8,D8),(b9,.inl (.int,[.int 0,.int 0,.int 0])),(b10,.inl (.long,(ocs.map Value.long))),(b11,.inl (.long,(rds.map Value.long))),(b12,.inl (.int,cvs)),(b13,D13)] (oVal fun w d=>∃ (rds' : List Int64) (z : Int32),w=.int z∧d=[(b0,D0),(b1,D1),(b2,D2),(b3,oP b10 b13 b11 b12 b4 b5 b6 b7 b8 b9 (.int 1) f_an f_mc (.int cn) f_dl f_wi (.int 2) (.int 0) (.int 0) (.int 0)),(b4,D4),(b5,D5),(b6,.inl (.int,[.int r0,.int r1,.int r2])),(b7,D7),(b8,D8),(b9,.inl (.int,[.int 0,.int 0,.int 0])),(b10,.inl (.long,(ocs.map Value.long))),(b11,.inl (.long,(rds'.map Value.long))),(b12,.inl (.int,(cvs.set 1 (.int 1)))),(b13,D13)]∧rds'.length=rds.length∧z.toInt=yy):=by
 refine oCo #[.val (.ref b3),.val (.int lo),.val (.int hi),.val (.double wv),.second,.unset,.unset,.unset] ?_
 intro p e s m below meth c K
 have hO1:=hO.1
 refine Ya 1 K d27_0 <|Yc 3 0 4 K (hw 19) d27_1 <|Ya 5 K d27_4 <|Yc 3 13 8 K (hw 63) d27_5 <|Ye 9 K d27_8 ?_
 refine Yk [.ref b10,.int cn,.int lo] [] 0 0 0 12 K (hw 164) (hw 165) (hw 86) (hw 166) (own_first @hw (ix:=10) rfl hcn hO.1 hol hs (by omega)) (lenOf pd_5 rfl) d27_9 ?_
 rintro _ _ ⟨fz,r,rfl,tfz,hcut,rfl⟩
 have hrn:=hcut.1
 refine Yj 14 K d27_12 U5 ?_
 refine oW.loop (F:=fun z : Int32 × Slot × Slot=>(r : Int)≤z.1.toInt∧z.1.toInt≤(cnt : Int)∧(∀ (j : Nat) (x : Int64) (p : Int),(j : Int) < z.1.toInt→ocs[j]?=some x→x.toInt=p * 4294967296 + ch→p < lo.toInt)∧oDead z.2.1∧oDead z.2.2) (mu:=fun z=>cnt - z.1.toInt.toNat) (pcj:=14) (Lf:=fun z=>#[.val (.ref b3),.val (.int lo),.val (.int hi),.val (.double wv),.second,.val (.int z.1),z.2.1,z.2.2]) (Sf:=fun z=>[]) (dsf:=fun z=>[(b0,D0),(b1,D1),(b2,D2),(b3,oP b10 b13 b11 b12 b4 b5 b6 b7 b8 b9 (.int 1) f_an f_mc (.int cn) f_dl f_wi (.int 1) (.int 0) (.int 0) (.int 0)),(b4,D4),(b5,D5),(b6,.inl (.int,[.int r0,.int r1,.int r2])),(b7,D7),(b8,D8),(b9,.inl (.int,[.int 0,.int 0,.int 0])),(b10,.inl (.long,(ocs.map Value.long))),(b11,.inl (.long,(rds.map Value.long))),(b12,.inl (.int,cvs)),(b13,D13)]) ?_ (fz,(.unset : Slot),(.unset : Slot)) (by dsimp only; exact ⟨by omega,by omega,fun j x p h q e=>by have:=hcut.2.1 j x (by omega) q; omega,Or.inl rfl,Or.inl rfl⟩)
 rintro ⟨ii,s1,s2⟩ hF14 IH14
 dsimp only at hF14 IH14 ⊢
 obtain ⟨f1,f2,f3,f8,f9⟩:=hF14
 refine Yb 16 K d27_14 <|Ya 17 K d27_16 <|Yc 3 13 20 K (hw 63) d27_17 ?_
 refine oW.icmp_ge (pc':=91) (pc3:=23) K d27_20 (by decide) (by decide) rfl (fun q=>(by simp only [oLt32] at q; have:=f3 ti tx yy (by omega) ht2 ht3; omega)) (fun c20=>?_)
 simp only [oLt32] at c20
 refine Ya 24 K d27_23 <|Yc 3 0 27 K (hw 19) d27_24 <|Yb 29 K d27_27 ?_
 obtain ⟨x29,g29⟩:=oHas (xs:=ocs) (k:=ii.toInt.toNat) (by omega)
 obtain ⟨pp29,ww29,e1_29,e2_29,e3_29,e4_29,e5_29⟩:=hO.2 _ _ (by omega) g29
 have hle29 : x29.toInt≤yy * 4294967296 + ch:=by have hge : ii.toInt≤(ti : Int):=Int.not_lt.mp fun q=>(by have:=f3 ti tx yy q ht2 ht3; omega); have h1:=oAtLeast hs g29 (by omega) ht1 ht2; omega
 refine oW.laloadJ (i:=10) (k:=ii.toInt.toNat) (pc':=30) K d27_29 rfl (oIdx (by omega)) (by omega) g29 rfl ?_
 refine Yk [.long x29] [] 0 0 0 33 K (hw 173) (hw 174) (hw 86) (hw 175) (own_position @hw e1_29 ⟨by omega,e3_29⟩ ⟨e4_29,by omega⟩) (lenOf pd_3 rfl) d27_30 ?_
 rintro _ _ ⟨pz,rfl,tpz,rfl⟩
 refine oW.istore (Ls':=#[.val (.ref b3),.val (.int lo),.val (.int hi),.val (.double wv),.second,.val (.int ii),.val (.int pz),s2]) (pc':=35) K d27_33 (oStoreDead rfl f8 rfl) rfl ?_
 refine Yb 37 K d27_35 <|Ye 38 K d27_37 ?_
 refine oW.icmp_le (pc':=44) (pc3:=41) K d27_38 (by decide) (by decide) rfl (fun c38=>?_) (fun q=>(by simp only [oLt32] at q; omega))
 simp only [oLt32] at c38
 refine Ya 45 K d27_44 <|Yc 3 6 48 K (hw 32) d27_45 <|Ya 49 K d27_48 <|Yc 3 0 52 K (hw 19) d27_49 <|Yb 54 K d27_52 ?_
 obtain ⟨x54,g54⟩:=oHas (xs:=ocs) (k:=ii.toInt.toNat) (by omega)
 obtain ⟨pp54,ww54,e1_54,e2_54,e3_54,e4_54,e5_54⟩:=hO.2 _ _ (by omega) g54
 refine oW.laloadJ (i:=10) (k:=ii.toInt.toNat) (pc':=55) K d27_54 rfl (oIdx (by omega)) (by omega) g54 rfl ?_
 refine Yk [.long x54] [.ref b6] 1 0 0 58 K (hw 176) (hw 177) (hw 86) (hw 178) (own_word @hw e1_54 ⟨e4_54,by omega⟩) (lenOf pd_3 rfl) d27_55 ?_
 rintro _ _ ⟨wz,rfl,twz,rfl⟩
 have hwz : wz=0∨wz=1∨wz=2:=by simp only [oEq32,Int32.reduceToInt]; omega
 rcases hwz with hwz|hwz|hwz
 ·subst hwz
  have twz' : ww54=0:=by have:=oTs; omega
  refine Yn 6 0 59 K d27_58 ?_
  refine oW.istore (Ls':=#[.val (.ref b3),.val (.int lo),.val (.int hi),.val (.double wv),.second,.val (.int ii),.val (.int pz),.val (.int r0)]) (pc':=61) K d27_59 (oStoreDead rfl f9 rfl) rfl ?_
  refine Yb 63 K d27_61 <|Ya 64 K d27_63 <|Yc 3 10 67 K (hw 57) d27_64 ?_
  refine Gm 85 70 K d27_67 (fun c67=>?_) (fun c67=>?_)
  ·simp only [oLt32,oEq32,Int32.reduceToInt] at c67
   obtain ⟨v85,ev85⟩:=oE (ii + Int32.ofInt 1 : Int32)
   refine G1 88 K d27_85 ev85 U5 ?_
   have tv85:=oIncK ev85 (by decide) (by omega)
   refine Yi 14 K d27_88 ?_
   exact IH14 (v85,(.val (.int pz) : Slot),(.val (.int r0) : Slot)) (by dsimp only; exact ⟨by omega,by omega,oUpTo3 f3 g54 (by omega) (by omega) (fun p e=>by omega),Or.inr ⟨_,rfl⟩,Or.inr ⟨_,rfl⟩⟩) (by dsimp only; omega)
  simp only [oLt32,oEq32,Int32.reduceToInt] at c67
  have hch : ch=0:=by have:=oTs; omega
  obtain rfl : r0=(0 : Int32):=oEq32.mpr (by have:=oTs; omega)
  have hpy : pp29=yy:=by have h1:=hcut.2.2 ii.toInt.toNat x29 (by omega) (by omega) g29; have h2:=hC ii.toInt.toNat x29 pp29 (by omega) g29 (by have h3:=Option.some.inj (g29.symm.trans g54); subst h3; omega) (by omega); omega
  refine Ya 71 K d27_70 <|Yb 73 K d27_71 <|Yb 75 K d27_73 <|Y1 76 K d27_75 ?_
  refine Gk b3 nM12 [.int pz,.int 0,.double wv] [] 0 0 0 79 K (hw 179) (hw 181) (hw 50) (hw 180) (hw 182) (hw 11) (own_readS1 @hw hwv hiw (by omega) (by omega) (by omega)) (lenOf pd_6 rfl) d27_76 ?_
  rintro _ _ ⟨rds',rfl,rfl,hl1⟩
  refine Ha 85 82 K d27_79 <|Yb 84 K d27_82 ?_
  exact Yq K d27_84 ⟨_,rfl,_,_,rfl,rfl,hl1,by omega⟩
 ·subst hwz
  have twz' : ww54=1:=by have:=oTs; omega
  refine Yn 6 1 59 K d27_58 ?_
  refine oW.istore (Ls':=#[.val (.ref b3),.val (.int lo),.val (.int hi),.val (.double wv),.second,.val (.int ii),.val (.int pz),.val (.int r1)]) (pc':=61) K d27_59 (oStoreDead rfl f9 rfl) rfl ?_
  refine Yb 63 K d27_61 <|Ya 64 K d27_63 <|Yc 3 10 67 K (hw 57) d27_64 ?_
  refine Gm 85 70 K d27_67 (fun c67=>?_) (fun c67=>?_)
  ·simp only [oLt32,oEq32,Int32.reduceToInt] at c67
   obtain ⟨v85,ev85⟩:=oE (ii + Int32.ofInt 1 : Int32)
   refine G1 88 K d27_85 ev85 U5 ?_
   have tv85:=oIncK ev85 (by decide) (by omega)
   refine Yi 14 K d27_88 ?_
   exact IH14 (v85,(.val (.int pz) : Slot),(.val (.int r1) : Slot)) (by dsimp only; exact ⟨by omega,by omega,oUpTo3 f3 g54 (by omega) (by omega) (fun p e=>by omega),Or.inr ⟨_,rfl⟩,Or.inr ⟨_,rfl⟩⟩) (by dsimp only; omega)
  simp only [oLt32,oEq32,Int32.reduceToInt] at c67
  have hch : ch=1:=by have:=oTs; omega
  obtain rfl : r1=(0 : Int32):=oEq32.mpr (by have:=oTs; omega)
  have hpy : pp29=yy:=by have h1:=hcut.2.2 ii.toInt.toNat x29 (by omega) (by omega) g29; have h2:=hC ii.toInt.toNat x29 pp29 (by omega) g29 (by have h3:=Option.some.inj (g29.symm.trans g54); subst h3; omega) (by omega); omega
  refine Ya 71 K d27_70 <|Yb 73 K d27_71 <|Yb 75 K d27_73 <|Y1 76 K d27_75 ?_
  refine Gk b3 nM12 [.int pz,.int 0,.double wv] [] 0 0 0 79 K (hw 179) (hw 181) (hw 50) (hw 180) (hw 182) (hw 11) (own_readS1 @hw hwv hiw (by omega) (by omega) (by omega)) (lenOf pd_6 rfl) d27_76 ?_
  rintro _ _ ⟨rds',rfl,rfl,hl1⟩
  refine Ha 85 82 K d27_79 <|Yb 84 K d27_82 ?_
  exact Yq K d27_84 ⟨_,rfl,_,_,rfl,rfl,hl1,by omega⟩
 subst hwz
 have twz' : ww54=2:=by have:=oTs; omega
 refine Yn 6 2 59 K d27_58 ?_
 refine oW.istore (Ls':=#[.val (.ref b3),.val (.int lo),.val (.int hi),.val (.double wv),.second,.val (.int ii),.val (.int pz),.val (.int r2)]) (pc':=61) K d27_59 (oStoreDead rfl f9 rfl) rfl ?_
 refine Yb 63 K d27_61 <|Ya 64 K d27_63 <|Yc 3 10 67 K (hw 57) d27_64 ?_
 refine Gm 85 70 K d27_67 (fun c67=>?_) (fun c67=>?_)
 ·simp only [oLt32,oEq32,Int32.reduceToInt] at c67
  obtain ⟨v85,ev85⟩:=oE (ii + Int32.ofInt 1 : Int32)
  refine G1 88 K d27_85 ev85 U5 ?_
  have tv85:=oIncK ev85 (by decide) (by omega)
  refine Yi 14 K d27_88 ?_
  exact IH14 (v85,(.val (.int pz) : Slot),(.val (.int r2) : Slot)) (by dsimp only; exact ⟨by omega,by omega,oUpTo3 f3 g54 (by omega) (by omega) (fun p e=>by omega),Or.inr ⟨_,rfl⟩,Or.inr ⟨_,rfl⟩⟩) (by dsimp only; omega)
 simp only [oLt32,oEq32,Int32.reduceToInt] at c67
 have hch : ch=2:=by have:=oTs; omega
 obtain rfl : r2=(0 : Int32):=oEq32.mpr (by have:=oTs; omega)
 have hpy : pp29=yy:=by have h1:=hcut.2.2 ii.toInt.toNat x29 (by omega) (by omega) g29; have h2:=hC ii.toInt.toNat x29 pp29 (by omega) g29 (by have h3:=Option.some.inj (g29.symm.trans g54); subst h3; omega) (by omega); omega
 refine Ya 71 K d27_70 <|Yb 73 K d27_71 <|Yb 75 K d27_73 <|Y1 76 K d27_75 ?_
 refine Gk b3 nM12 [.int pz,.int 0,.double wv] [] 0 0 0 79 K (hw 179) (hw 181) (hw 50) (hw 180) (hw 182) (hw 11) (own_readS1 @hw hwv hiw (by omega) (by omega) (by omega)) (lenOf pd_6 rfl) d27_76 ?_
 rintro _ _ ⟨rds',rfl,rfl,hl1⟩
 refine Ha 85 82 K d27_79 <|Yb 84 K d27_82 ?_
 exact Yq K d27_84 ⟨_,rfl,_,_,rfl,rfl,hl1,by omega⟩
abbrev e19 (n : Nat) := decode jdk_65_method_59_code n
theorem d19_0 : e19 0=.ok (.iload_n 1,1):=by decide +kernel
theorem d19_1 : e19 1=.ok (.istore 4,2):=by decide +kernel
theorem d19_3 : e19 3=.ok (.iload_n 2,1):=by decide +kernel
theorem d19_4 : e19 4=.ok (.iconst 1,1):=by decide +kernel
theorem d19_5 : e19 5=.ok (.isub,1):=by decide +kernel
theorem d19_6 : e19 6=.ok (.istore 5,2):=by decide +kernel
theorem d19_8 : e19 8=.ok (.iload 4,2):=by decide +kernel
theorem d19_10 : e19 10=.ok (.iload 5,2):=by decide +kernel
theorem d19_12 : e19 12=.ok (.if_icmp .gt 54,3):=by decide +kernel
theorem d19_15 : e19 15=.ok (.iload 4,2):=by decide +kernel
theorem d19_17 : e19 17=.ok (.iload 5,2):=by decide +kernel
theorem d19_19 : e19 19=.ok (.iadd,1):=by decide +kernel
theorem d19_20 : e19 20=.ok (.iconst 1,1):=by decide +kernel
theorem d19_21 : e19 21=.ok (.iushr,1):=by decide +kernel
theorem d19_22 : e19 22=.ok (.istore 6,2):=by decide +kernel
theorem d19_24 : e19 24=.ok (.aload_n 0,1):=by decide +kernel
theorem d19_25 : e19 25=.ok (.iload 6,2):=by decide +kernel
theorem d19_27 : e19 27=.ok (.iaload,1):=by decide +kernel
theorem d19_28 : e19 28=.ok (.istore 7,2):=by decide +kernel
theorem d19_30 : e19 30=.ok (.iload 7,2):=by decide +kernel
theorem d19_32 : e19 32=.ok (.iload_n 3,1):=by decide +kernel
theorem d19_33 : e19 33=.ok (.if_icmp .ge 12,3):=by decide +kernel
theorem d19_36 : e19 36=.ok (.iload 6,2):=by decide +kernel
theorem d19_38 : e19 38=.ok (.iconst 1,1):=by decide +kernel
theorem d19_39 : e19 39=.ok (.iadd,1):=by decide +kernel
theorem d19_40 : e19 40=.ok (.istore 4,2):=by decide +kernel
theorem d19_42 : e19 42=.ok (.goto 21,3):=by decide +kernel
theorem d19_45 : e19 45=.ok (.iload 7,2):=by decide +kernel
theorem d19_47 : e19 47=.ok (.iload_n 3,1):=by decide +kernel
theorem d19_48 : e19 48=.ok (.if_icmp .le 12,3):=by decide +kernel
theorem d19_51 : e19 51=.ok (.iload 6,2):=by decide +kernel
theorem d19_53 : e19 53=.ok (.iconst 1,1):=by decide +kernel
theorem d19_54 : e19 54=.ok (.isub,1):=by decide +kernel
theorem d19_55 : e19 55=.ok (.istore 5,2):=by decide +kernel
theorem d19_57 : e19 57=.ok (.goto 6,3):=by decide +kernel
theorem d19_60 : e19 60=.ok (.iload 6,2):=by decide +kernel
theorem d19_62 : e19 62=.ok (.ireturn,1):=by decide +kernel
theorem d19_63 : e19 63=.ok (.goto (-55),3):=by decide +kernel
theorem d19_66 : e19 66=.ok (.iload 4,2):=by decide +kernel
theorem d19_68 : e19 68=.ok (.iconst 1,1):=by decide +kernel
theorem d19_69 : e19 69=.ok (.iadd,1):=by decide +kernel
theorem d19_70 : e19 70=.ok (.ineg,1):=by decide +kernel
theorem d19_71 : e19 71=.ok (.ireturn,1):=by decide +kernel
theorem own_bsI0_1 (hw : oHw a0 Z) {ds0 : oDs} {ax : Addr} {ix : Nat} {key x0 : Int32} (hi : ds0[ix]?=some (ax,.inl (.int,[.int x0]))) :
  oCtr l Z h0 [] nM14 jdk_65_method_59_code 8 (some .int) (oR 0 0 0 0) #[.ref ax,.int 0,.int 1,.int key] ds0 (oVal fun w d=>∃ z : Int32,w=.int z∧((z=0∧x0.toInt=key.toInt)∨(z=-1∧key.toInt < x0.toInt)∨(z=-2∧x0.toInt < key.toInt))∧d=ds0):=by
 refine oCo #[.val (.ref ax),.val (.int 0),.val (.int 1),.val (.int key),.unset,.unset,.unset,.unset] ?_
 intro p e s m below meth c K
 refine Ye 1 K d19_0 ?_
 refine Yj 3 K d19_1 U4 <|Ye 4 K d19_3 <|Yd 1 5 K d19_4 ?_
 refine Y4 0 6 K d19_5 ?_
 refine Yj 8 K d19_6 U5 <|Yb 10 K d19_8 <|Yb 12 K d19_10 ?_
 refine Hn 66 15 K d19_12 <|Yb 17 K d19_15 <|Yb 19 K d19_17 ?_
 refine Ym 0 20 K d19_19 <|Yd 1 21 K d19_20 ?_
 refine Hp 0 22 K d19_21 ?_
 refine Yj 24 K d19_22 U6 <|Ya 25 K d19_24 <|Yb 27 K d19_25 <|G7 ix 0 28 K d19_27 hi ?_
 refine Yj 30 K d19_28 U7 <|Yb 32 K d19_30 <|Ye 33 K d19_32 ?_
 refine Gm 45 36 K d19_33 (fun c33=>?_) (fun c33=>?_)
 ·simp only [oLt32,oEq32,Int32.reduceToInt] at c33
  refine Yb 47 K d19_45 <|Ye 48 K d19_47 ?_
  refine Hm 60 51 K d19_48 (fun c48=>?_) (fun c48=>?_)
  ·simp only [oLt32,oEq32,Int32.reduceToInt] at c48
   refine Yb 62 K d19_60 ?_
   exact Yq K d19_62 ⟨_,rfl,_,rfl,Or.inl ⟨rfl,by omega⟩,rfl⟩
  simp only [oLt32,oEq32,Int32.reduceToInt] at c48
  refine Yb 53 K d19_51 <|Yd 1 54 K d19_53 ?_
  refine Y4 (-1 : Int32) 55 K d19_54 ?_
  refine Yj 57 K d19_55 U5 <|Yi 63 K d19_57 <|Yi 8 K d19_63 <|Yb 10 K d19_8 <|Yb 12 K d19_10 ?_
  refine Hb 66 15 K d19_12 <|Yb 68 K d19_66 <|Yd 1 69 K d19_68 ?_
  refine Ym 1 70 K d19_69 ?_
  refine G5 (-1 : Int32) 71 K d19_70 ?_
  exact Yq K d19_71 ⟨_,rfl,_,rfl,Or.inr (Or.inl ⟨rfl,by omega⟩),rfl⟩
 simp only [oLt32,oEq32,Int32.reduceToInt] at c33
 refine Yb 38 K d19_36 <|Yd 1 39 K d19_38 ?_
 refine Ym 1 40 K d19_39 ?_
 refine Yj 42 K d19_40 U4 <|Yi 63 K d19_42 <|Yi 8 K d19_63 <|Yb 10 K d19_8 <|Yb 12 K d19_10 ?_
 refine Hb 66 15 K d19_12 <|Yb 68 K d19_66 <|Yd 1 69 K d19_68 ?_
 refine Ym 2 70 K d19_69 ?_
 refine G5 (-2 : Int32) 71 K d19_70 ?_
 exact Yq K d19_71 ⟨_,rfl,_,rfl,Or.inr (Or.inr (⟨rfl,by omega⟩)),rfl⟩
abbrev e18 (n : Nat) := decode jdk_65_method_57_code n
theorem d18_0 : e18 0=.ok (.aload_n 0,1):=by decide +kernel
theorem d18_1 : e18 1=.ok (.iconst 0,1):=by decide +kernel
theorem d18_2 : e18 2=.ok (.aload_n 0,1):=by decide +kernel
theorem d18_3 : e18 3=.ok (.arraylength,1):=by decide +kernel
theorem d18_4 : e18 4=.ok (.iload_n 1,1):=by decide +kernel
theorem d18_5 : e18 5=.ok (.invokestatic 209,3):=by decide +kernel
theorem d18_8 : e18 8=.ok (.ireturn,1):=by decide +kernel
theorem pd_7 : parseMethodDescriptor "([IIII)I" = some ⟨[(.array .int), .int, .int, .int], some .int⟩ := by decide +kernel
theorem own_bsI_1 (hw : oHw a0 Z) {ds0 : oDs} {ax : Addr} {ix : Nat} {key x0 : Int32} (hi : ds0[ix]?=some (ax,.inl (.int,[.int x0]))) :
  oCtr l Z h0 [] nM15 jdk_65_method_57_code 2 (some .int) (oR 1 0 0 20) #[.ref ax,.int key] ds0 (oVal fun w d=>∃ z : Int32,w=.int z∧((z=0∧x0.toInt=key.toInt)∨(z=-1∧key.toInt < x0.toInt)∨(z=-2∧x0.toInt < key.toInt))∧d=ds0):=by
 refine oCo #[.val (.ref ax),.val (.int key)] ?_
 intro p e s m below meth c K
 refine Ya 1 K d18_0 <|Yd 0 2 K d18_1 <|Ya 3 K d18_2 <|He ix 1 4 K d18_3 hi <|Ye 5 K d18_4 ?_
 refine Yk [.ref ax,.int 0,.int 1,.int key] [] 0 0 0 8 K (hw 114) (hw 115) (hw 37) (hw 116) (own_bsI0_1 @hw hi) (lenOf pd_7 rfl) d18_5 ?_
 rintro _ _ ⟨z,rfl,hz,rfl⟩
 exact Yq K d18_8 ⟨_,rfl,_,rfl,hz,rfl⟩
abbrev e17 (n : Nat) := decode prog_7_method_8_code n
theorem d17_0 : e17 0=.ok (.aload_n 0,1):=by decide +kernel
theorem d17_1 : e17 1=.ok (.iload_n 1,1):=by decide +kernel
theorem d17_2 : e17 2=.ok (.invokestatic 124,3):=by decide +kernel
theorem d17_5 : e17 5=.ok (.istore_n 2,1):=by decide +kernel
theorem d17_6 : e17 6=.ok (.iload_n 2,1):=by decide +kernel
theorem d17_7 : e17 7=.ok (.ifCond .lt 5,3):=by decide +kernel
theorem d17_10 : e17 10=.ok (.iconst 0,1):=by decide +kernel
theorem d17_11 : e17 11=.ok (.ireturn,1):=by decide +kernel
theorem d17_12 : e17 12=.ok (.iload_n 2,1):=by decide +kernel
theorem d17_13 : e17 13=.ok (.ineg,1):=by decide +kernel
theorem d17_14 : e17 14=.ok (.iconst 1,1):=by decide +kernel
theorem d17_15 : e17 15=.ok (.isub,1):=by decide +kernel
theorem d17_16 : e17 16=.ok (.istore_n 3,1):=by decide +kernel
theorem d17_17 : e17 17=.ok (.ldc 35,2):=by decide +kernel
theorem d17_19 : e17 19=.ok (.istore 4,2):=by decide +kernel
theorem d17_21 : e17 21=.ok (.iload_n 3,1):=by decide +kernel
theorem d17_22 : e17 22=.ok (.aload_n 0,1):=by decide +kernel
theorem d17_23 : e17 23=.ok (.arraylength,1):=by decide +kernel
theorem d17_24 : e17 24=.ok (.if_icmp .ge 10,3):=by decide +kernel
theorem d17_27 : e17 27=.ok (.aload_n 0,1):=by decide +kernel
theorem d17_28 : e17 28=.ok (.iload_n 3,1):=by decide +kernel
theorem d17_29 : e17 29=.ok (.iaload,1):=by decide +kernel
theorem d17_30 : e17 30=.ok (.iload_n 1,1):=by decide +kernel
theorem d17_31 : e17 31=.ok (.isub,1):=by decide +kernel
theorem d17_32 : e17 32=.ok (.istore 4,2):=by decide +kernel
theorem d17_34 : e17 34=.ok (.iload_n 3,1):=by decide +kernel
theorem d17_35 : e17 35=.ok (.ifCond .le 17,3):=by decide +kernel
theorem d17_38 : e17 38=.ok (.iload 4,2):=by decide +kernel
theorem d17_40 : e17 40=.ok (.iload_n 1,1):=by decide +kernel
theorem d17_41 : e17 41=.ok (.aload_n 0,1):=by decide +kernel
theorem d17_42 : e17 42=.ok (.iload_n 3,1):=by decide +kernel
theorem d17_43 : e17 43=.ok (.iconst 1,1):=by decide +kernel
theorem d17_44 : e17 44=.ok (.isub,1):=by decide +kernel
theorem d17_45 : e17 45=.ok (.iaload,1):=by decide +kernel
theorem d17_46 : e17 46=.ok (.isub,1):=by decide +kernel
theorem d17_47 : e17 47=.ok (.invokestatic 127,3):=by decide +kernel
theorem d17_50 : e17 50=.ok (.istore 4,2):=by decide +kernel
theorem d17_52 : e17 52=.ok (.iload 4,2):=by decide +kernel
theorem d17_54 : e17 54=.ok (.ireturn,1):=by decide +kernel
theorem pd_8 : parseMethodDescriptor "([II)I" = some ⟨[(.array .int), .int], some .int⟩ := by decide +kernel
theorem pd_9 : parseMethodDescriptor "(II)I" = some ⟨[.int, .int], some .int⟩ := by decide +kernel
theorem own_dist_1 (hw : oHw a0 Z) {ds0 : oDs} {ax : Addr} {ix : Nat} {key x0 : Int32} (hi : ds0[ix]?=some (ax,.inl (.int,[.int x0]))) (hk : 0≤key.toInt∧key.toInt≤100000) (hx0 : 0≤x0.toInt∧x0.toInt≤100000) :
  oCtr l Z h0 [] nM16 prog_7_method_8_code 5 (some .int) (oR 2 0 0 36) #[.ref ax,.int key] ds0 (oVal fun w d=>∃ z : Int32,w=.int z∧((x0.toInt=key.toInt)→z.toInt=0)∧d=ds0):=by
 refine oCo #[.val (.ref ax),.val (.int key),.unset,.unset,.unset] ?_
 intro p e s m below meth c K
 refine Ya 1 K d17_0 <|Ye 2 K d17_1 ?_
 refine Yk [.ref ax,.int key] [] 0 0 0 5 K (hw 111) (hw 112) (hw 37) (hw 113) (own_bsI_1 @hw hi) (lenOf pd_8 rfl) d17_2 ?_
 rintro _ _ ⟨z,rfl,hz,rfl⟩
 rcases hz with ⟨hz,hq⟩|⟨hz,hq⟩|⟨hz,hq⟩
 ·subst hz
  refine Yz 6 K d17_5 U2 <|Ye 7 K d17_6 ?_
  refine Yw 12 10 K d17_7 <|Yd 0 11 K d17_10 ?_
  exact Yq K d17_11 ⟨_,rfl,_,rfl,fun _=>by decide,rfl⟩
 ·subst hz
  refine Yz 6 K d17_5 U2 <|Ye 7 K d17_6 ?_
  refine Ys 12 10 K d17_7 <|Ye 13 K d17_12 ?_
  refine G5 1 14 K d17_13 <|Yd 1 15 K d17_14 ?_
  refine Y4 0 16 K d17_15 ?_
  refine Yz 17 K d17_16 U3 ?_
  refine G8 19 K (hw 34) d17_17 ?_
  refine Yj 21 K d17_19 U4 <|Ye 22 K d17_21 <|Ya 23 K d17_22 <|He ix 1 24 K d17_23 hi ?_
  refine Yy 34 27 K d17_24 <|Ya 28 K d17_27 <|Ye 29 K d17_28 <|G7 ix 0 30 K d17_29 hi <|Ye 31 K d17_30 ?_
  obtain ⟨v31,ev31⟩:=oE (x0 - key : Int32)
  refine Y9 32 K d17_31 ev31 ?_
  have tv31:=oIsub ev31 oOm
  try simp only [Int32.reduceToInt,Int64.reduceToInt] at tv31
  refine Yj 34 K d17_32 U4 <|Ye 35 K d17_34 ?_
  refine Hw 52 38 K d17_35 <|Yb 54 K d17_52 ?_
  exact Yq K d17_54 ⟨_,rfl,_,rfl,fun h=>by omega,rfl⟩
 subst hz
 refine Yz 6 K d17_5 U2 <|Ye 7 K d17_6 ?_
 refine Ys 12 10 K d17_7 <|Ye 13 K d17_12 ?_
 refine G5 2 14 K d17_13 <|Yd 1 15 K d17_14 ?_
 refine Y4 1 16 K d17_15 ?_
 refine Yz 17 K d17_16 U3 ?_
 refine G8 19 K (hw 34) d17_17 ?_
 refine Yj 21 K d17_19 U4 <|Ye 22 K d17_21 <|Ya 23 K d17_22 <|He ix 1 24 K d17_23 hi ?_
 refine Y8 34 27 K d17_24 <|Ye 35 K d17_34 ?_
 refine Hq 52 38 K d17_35 <|Yb 40 K d17_38 <|Ye 41 K d17_40 <|Ya 42 K d17_41 <|Ye 43 K d17_42 <|Yd 1 44 K d17_43 ?_
 refine Y4 0 45 K d17_44 <|G7 ix 0 46 K d17_45 hi ?_
 obtain ⟨v46,ev46⟩:=oE (key - x0 : Int32)
 refine Y9 47 K d17_46 ev46 ?_
 have tv46:=oIsub ev46 oOm
 try simp only [Int32.reduceToInt,Int64.reduceToInt] at tv46
 refine Yk [.int 2147483647,.int v46] [] 0 0 0 50 K (hw 189) (hw 78) (hw 7) (hw 79) (own_min @hw) (lenOf pd_9 rfl) d17_47 ?_
 rintro _ _ ⟨mz,rfl,tmz,rfl⟩
 refine Yj 52 K d17_50 U4 <|Yb 54 K d17_52 ?_
 exact Yq K d17_54 ⟨_,rfl,_,rfl,fun h=>by omega,rfl⟩
theorem own_bsI0_2 (hw : oHw a0 Z) {ds0 : oDs} {ax : Addr} {ix : Nat} {key x0 x1 : Int32} (hi : ds0[ix]?=some (ax,.inl (.int,[.int x0,.int x1]))) :
  oCtr l Z h0 [] nM14 jdk_65_method_59_code 8 (some .int) (oR 0 0 0 0) #[.ref ax,.int 0,.int 2,.int key] ds0 (oVal fun w d=>∃ z : Int32,w=.int z∧((z=0∧x0.toInt=key.toInt)∨(z=1∧x1.toInt=key.toInt)∨(z=-1∧key.toInt < x0.toInt)∨(z=-2∧x0.toInt < key.toInt∧key.toInt < x1.toInt)∨(z=-3∧x1.toInt < key.toInt))∧d=ds0):=by
 refine oCo #[.val (.ref ax),.val (.int 0),.val (.int 2),.val (.int key),.unset,.unset,.unset,.unset] ?_
 intro p e s m below meth c K
 refine Ye 1 K d19_0 ?_
 refine Yj 3 K d19_1 U4 <|Ye 4 K d19_3 <|Yd 1 5 K d19_4 ?_
 refine Y4 1 6 K d19_5 ?_
 refine Yj 8 K d19_6 U5 <|Yb 10 K d19_8 <|Yb 12 K d19_10 ?_
 refine Hn 66 15 K d19_12 <|Yb 17 K d19_15 <|Yb 19 K d19_17 ?_
 refine Ym 1 20 K d19_19 <|Yd 1 21 K d19_20 ?_
 refine Hp 0 22 K d19_21 ?_
 refine Yj 24 K d19_22 U6 <|Ya 25 K d19_24 <|Yb 27 K d19_25 <|G7 ix 0 28 K d19_27 hi ?_
 refine Yj 30 K d19_28 U7 <|Yb 32 K d19_30 <|Ye 33 K d19_32 ?_
 refine Gm 45 36 K d19_33 (fun c33=>?_) (fun c33=>?_)
 ·simp only [oLt32,oEq32,Int32.reduceToInt] at c33
  refine Yb 47 K d19_45 <|Ye 48 K d19_47 ?_
  refine Hm 60 51 K d19_48 (fun c48=>?_) (fun c48=>?_)
  ·simp only [oLt32,oEq32,Int32.reduceToInt] at c48
   refine Yb 62 K d19_60 ?_
   exact Yq K d19_62 ⟨_,rfl,_,rfl,Or.inl ⟨rfl,by omega⟩,rfl⟩
  simp only [oLt32,oEq32,Int32.reduceToInt] at c48
  refine Yb 53 K d19_51 <|Yd 1 54 K d19_53 ?_
  refine Y4 (-1 : Int32) 55 K d19_54 ?_
  refine Yj 57 K d19_55 U5 <|Yi 63 K d19_57 <|Yi 8 K d19_63 <|Yb 10 K d19_8 <|Yb 12 K d19_10 ?_
  refine Hb 66 15 K d19_12 <|Yb 68 K d19_66 <|Yd 1 69 K d19_68 ?_
  refine Ym 1 70 K d19_69 ?_
  refine G5 (-1 : Int32) 71 K d19_70 ?_
  exact Yq K d19_71 ⟨_,rfl,_,rfl,Or.inr (Or.inr (Or.inl ⟨rfl,by omega⟩)),rfl⟩
 simp only [oLt32,oEq32,Int32.reduceToInt] at c33
 refine Yb 38 K d19_36 <|Yd 1 39 K d19_38 ?_
 refine Ym 1 40 K d19_39 ?_
 refine Yj 42 K d19_40 U4 <|Yi 63 K d19_42 <|Yi 8 K d19_63 <|Yb 10 K d19_8 <|Yb 12 K d19_10 ?_
 refine Hn 66 15 K d19_12 <|Yb 17 K d19_15 <|Yb 19 K d19_17 ?_
 refine Ym 2 20 K d19_19 <|Yd 1 21 K d19_20 ?_
 refine Hp 1 22 K d19_21 ?_
 refine Yj 24 K d19_22 U6 <|Ya 25 K d19_24 <|Yb 27 K d19_25 <|G7 ix 1 28 K d19_27 hi ?_
 refine Yj 30 K d19_28 U7 <|Yb 32 K d19_30 <|Ye 33 K d19_32 ?_
 refine Gm 45 36 K d19_33 (fun c33_1=>?_) (fun c33_1=>?_)
 ·simp only [oLt32,oEq32,Int32.reduceToInt] at c33_1
  refine Yb 47 K d19_45 <|Ye 48 K d19_47 ?_
  refine Hm 60 51 K d19_48 (fun c48=>?_) (fun c48=>?_)
  ·simp only [oLt32,oEq32,Int32.reduceToInt] at c48
   refine Yb 62 K d19_60 ?_
   exact Yq K d19_62 ⟨_,rfl,_,rfl,Or.inr (Or.inl ⟨rfl,by omega⟩),rfl⟩
  simp only [oLt32,oEq32,Int32.reduceToInt] at c48
  refine Yb 53 K d19_51 <|Yd 1 54 K d19_53 ?_
  refine Y4 0 55 K d19_54 ?_
  refine Yj 57 K d19_55 U5 <|Yi 63 K d19_57 <|Yi 8 K d19_63 <|Yb 10 K d19_8 <|Yb 12 K d19_10 ?_
  refine Hb 66 15 K d19_12 <|Yb 68 K d19_66 <|Yd 1 69 K d19_68 ?_
  refine Ym 2 70 K d19_69 ?_
  refine G5 (-2 : Int32) 71 K d19_70 ?_
  exact Yq K d19_71 ⟨_,rfl,_,rfl,Or.inr (Or.inr (Or.inr (Or.inl ⟨rfl,by omega⟩))),rfl⟩
 simp only [oLt32,oEq32,Int32.reduceToInt] at c33_1
 refine Yb 38 K d19_36 <|Yd 1 39 K d19_38 ?_
 refine Ym 2 40 K d19_39 ?_
 refine Yj 42 K d19_40 U4 <|Yi 63 K d19_42 <|Yi 8 K d19_63 <|Yb 10 K d19_8 <|Yb 12 K d19_10 ?_
 refine Hb 66 15 K d19_12 <|Yb 68 K d19_66 <|Yd 1 69 K d19_68 ?_
 refine Ym 3 70 K d19_69 ?_
 refine G5 (-3 : Int32) 71 K d19_70 ?_
 exact Yq K d19_71 ⟨_,rfl,_,rfl,Or.inr (Or.inr (Or.inr (Or.inr (⟨rfl,by omega⟩)))),rfl⟩
theorem own_bsI_2 (hw : oHw a0 Z) {ds0 : oDs} {ax : Addr} {ix : Nat} {key x0 x1 : Int32} (hi : ds0[ix]?=some (ax,.inl (.int,[.int x0,.int x1]))) :
  oCtr l Z h0 [] nM15 jdk_65_method_57_code 2 (some .int) (oR 1 0 0 20) #[.ref ax,.int key] ds0 (oVal fun w d=>∃ z : Int32,w=.int z∧((z=0∧x0.toInt=key.toInt)∨(z=1∧x1.toInt=key.toInt)∨(z=-1∧key.toInt < x0.toInt)∨(z=-2∧x0.toInt < key.toInt∧key.toInt < x1.toInt)∨(z=-3∧x1.toInt < key.toInt))∧d=ds0):=by
 refine oCo #[.val (.ref ax),.val (.int key)] ?_
 intro p e s m below meth c K
 refine Ya 1 K d18_0 <|Yd 0 2 K d18_1 <|Ya 3 K d18_2 <|He ix 2 4 K d18_3 hi <|Ye 5 K d18_4 ?_
 refine Yk [.ref ax,.int 0,.int 2,.int key] [] 0 0 0 8 K (hw 114) (hw 115) (hw 37) (hw 116) (own_bsI0_2 @hw hi) (lenOf pd_7 rfl) d18_5 ?_
 rintro _ _ ⟨z,rfl,hz,rfl⟩
 exact Yq K d18_8 ⟨_,rfl,_,rfl,hz,rfl⟩
theorem own_dist_2 (hw : oHw a0 Z) {ds0 : oDs} {ax : Addr} {ix : Nat} {key x0 x1 : Int32} (hi : ds0[ix]?=some (ax,.inl (.int,[.int x0,.int x1]))) (hk : 0≤key.toInt∧key.toInt≤100000) (hx0 : 0≤x0.toInt∧x0.toInt≤100000) (hx1 : 0≤x1.toInt∧x1.toInt≤100000) (h01 : x0.toInt < x1.toInt) :
  oCtr l Z h0 [] nM16 prog_7_method_8_code 5 (some .int) (oR 2 0 0 36) #[.ref ax,.int key] ds0 (oVal fun w d=>∃ z : Int32,w=.int z∧((x0.toInt=key.toInt∨x1.toInt=key.toInt)→z.toInt=0)∧d=ds0):=by
 refine oCo #[.val (.ref ax),.val (.int key),.unset,.unset,.unset] ?_
 intro p e s m below meth c K
 refine Ya 1 K d17_0 <|Ye 2 K d17_1 ?_
 refine Yk [.ref ax,.int key] [] 0 0 0 5 K (hw 111) (hw 112) (hw 37) (hw 113) (own_bsI_2 @hw hi) (lenOf pd_8 rfl) d17_2 ?_
 rintro _ _ ⟨z,rfl,hz,rfl⟩
 rcases hz with ⟨hz,hq⟩|⟨hz,hq⟩|⟨hz,hq⟩|⟨hz,hq⟩|⟨hz,hq⟩
 ·subst hz
  refine Yz 6 K d17_5 U2 <|Ye 7 K d17_6 ?_
  refine Yw 12 10 K d17_7 <|Yd 0 11 K d17_10 ?_
  exact Yq K d17_11 ⟨_,rfl,_,rfl,fun _=>by decide,rfl⟩
 ·subst hz
  refine Yz 6 K d17_5 U2 <|Ye 7 K d17_6 ?_
  refine Yw 12 10 K d17_7 <|Yd 0 11 K d17_10 ?_
  exact Yq K d17_11 ⟨_,rfl,_,rfl,fun _=>by decide,rfl⟩
 ·subst hz
  refine Yz 6 K d17_5 U2 <|Ye 7 K d17_6 ?_
  refine Ys 12 10 K d17_7 <|Ye 13 K d17_12 ?_
  refine G5 1 14 K d17_13 <|Yd 1 15 K d17_14 ?_
  refine Y4 0 16 K d17_15 ?_
  refine Yz 17 K d17_16 U3 ?_
  refine G8 19 K (hw 34) d17_17 ?_
  refine Yj 21 K d17_19 U4 <|Ye 22 K d17_21 <|Ya 23 K d17_22 <|He ix 2 24 K d17_23 hi ?_
  refine Yy 34 27 K d17_24 <|Ya 28 K d17_27 <|Ye 29 K d17_28 <|G7 ix 0 30 K d17_29 hi <|Ye 31 K d17_30 ?_
  obtain ⟨v31,ev31⟩:=oE (x0 - key : Int32)
  refine Y9 32 K d17_31 ev31 ?_
  have tv31:=oIsub ev31 oOm
  try simp only [Int32.reduceToInt,Int64.reduceToInt] at tv31
  refine Yj 34 K d17_32 U4 <|Ye 35 K d17_34 ?_
  refine Hw 52 38 K d17_35 <|Yb 54 K d17_52 ?_
  exact Yq K d17_54 ⟨_,rfl,_,rfl,fun h=>by omega,rfl⟩
 ·subst hz
  refine Yz 6 K d17_5 U2 <|Ye 7 K d17_6 ?_
  refine Ys 12 10 K d17_7 <|Ye 13 K d17_12 ?_
  refine G5 2 14 K d17_13 <|Yd 1 15 K d17_14 ?_
  refine Y4 1 16 K d17_15 ?_
  refine Yz 17 K d17_16 U3 ?_
  refine G8 19 K (hw 34) d17_17 ?_
  refine Yj 21 K d17_19 U4 <|Ye 22 K d17_21 <|Ya 23 K d17_22 <|He ix 2 24 K d17_23 hi ?_
  refine Yy 34 27 K d17_24 <|Ya 28 K d17_27 <|Ye 29 K d17_28 <|G7 ix 1 30 K d17_29 hi <|Ye 31 K d17_30 ?_
  obtain ⟨v31,ev31⟩:=oE (x1 - key : Int32)
  refine Y9 32 K d17_31 ev31 ?_
  have tv31:=oIsub ev31 oOm
  try simp only [Int32.reduceToInt,Int64.reduceToInt] at tv31
  refine Yj 34 K d17_32 U4 <|Ye 35 K d17_34 ?_
  refine Hq 52 38 K d17_35 <|Yb 40 K d17_38 <|Ye 41 K d17_40 <|Ya 42 K d17_41 <|Ye 43 K d17_42 <|Yd 1 44 K d17_43 ?_
  refine Y4 0 45 K d17_44 <|G7 ix 0 46 K d17_45 hi ?_
  obtain ⟨v46,ev46⟩:=oE (key - x0 : Int32)
  refine Y9 47 K d17_46 ev46 ?_
  have tv46:=oIsub ev46 oOm
  try simp only [Int32.reduceToInt,Int64.reduceToInt] at tv46
  refine Yk [.int v31,.int v46] [] 0 0 0 50 K (hw 189) (hw 78) (hw 7) (hw 79) (own_min @hw) (lenOf pd_9 rfl) d17_47 ?_
  rintro _ _ ⟨mz,rfl,tmz,rfl⟩
  refine Yj 52 K d17_50 U4 <|Yb 54 K d17_52 ?_
  exact Yq K d17_54 ⟨_,rfl,_,rfl,fun h=>by omega,rfl⟩
 subst hz
 refine Yz 6 K d17_5 U2 <|Ye 7 K d17_6 ?_
 refine Ys 12 10 K d17_7 <|Ye 13 K d17_12 ?_
 refine G5 3 14 K d17_13 <|Yd 1 15 K d17_14 ?_
 refine Y4 2 16 K d17_15 ?_
 refine Yz 17 K d17_16 U3 ?_
 refine G8 19 K (hw 34) d17_17 ?_
 refine Yj 21 K d17_19 U4 <|Ye 22 K d17_21 <|Ya 23 K d17_22 <|He ix 2 24 K d17_23 hi ?_
 refine Y8 34 27 K d17_24 <|Ye 35 K d17_34 ?_
 refine Hq 52 38 K d17_35 <|Yb 40 K d17_38 <|Ye 41 K d17_40 <|Ya 42 K d17_41 <|Ye 43 K d17_42 <|Yd 1 44 K d17_43 ?_
 refine Y4 1 45 K d17_44 <|G7 ix 1 46 K d17_45 hi ?_
 obtain ⟨v46,ev46⟩:=oE (key - x1 : Int32)
 refine Y9 47 K d17_46 ev46 ?_
 have tv46:=oIsub ev46 oOm
 try simp only [Int32.reduceToInt,Int64.reduceToInt] at tv46
 refine Yk [.int 2147483647,.int v46] [] 0 0 0 50 K (hw 189) (hw 78) (hw 7) (hw 79) (own_min @hw) (lenOf pd_9 rfl) d17_47 ?_
 rintro _ _ ⟨mz,rfl,tmz,rfl⟩
 refine Yj 52 K d17_50 U4 <|Yb 54 K d17_52 ?_
 exact Yq K d17_54 ⟨_,rfl,_,rfl,fun h=>by omega,rfl⟩
theorem d23_0 : decode jdk_29_method_92_code 0=.ok (.dload_n 0,1):=by decide +kernel
theorem d23_1 : decode jdk_29_method_92_code 1=.ok (.invokestatic 79,3):=by decide +kernel
theorem d23_4 : decode jdk_29_method_92_code 4=.ok (.ldc2_w 87,3):=by decide +kernel
theorem d23_7 : decode jdk_29_method_92_code 7=.ok (.land,1):=by decide +kernel
theorem d23_8 : decode jdk_29_method_92_code 8=.ok (.bipush 52,2):=by decide +kernel
theorem d23_10 : decode jdk_29_method_92_code 10=.ok (.lshr,1):=by decide +kernel
theorem d23_11 : decode jdk_29_method_92_code 11=.ok (.ldc2_w 322,3):=by decide +kernel
theorem d23_14 : decode jdk_29_method_92_code 14=.ok (.lsub,1):=by decide +kernel
theorem d23_15 : decode jdk_29_method_92_code 15=.ok (.l2i,1):=by decide +kernel
theorem d23_16 : decode jdk_29_method_92_code 16=.ok (.ireturn,1):=by decide +kernel
theorem d22_0 : decode jdk_128_method_18_code 0=.ok (.dload_n 0,1):=by decide +kernel
theorem d22_1 : decode jdk_128_method_18_code 1=.ok (.invokestatic 66,3):=by decide +kernel
theorem d22_4 : decode jdk_128_method_18_code 4=.ok (.istore 8,2):=by decide +kernel
theorem d22_6 : decode jdk_128_method_18_code 6=.ok (.iload 8,2):=by decide +kernel
theorem d22_8 : decode jdk_128_method_18_code 8=.ok (.ifCond .ge 26,3):=by decide +kernel
theorem d22_34 : decode jdk_128_method_18_code 34=.ok (.iload 8,2):=by decide +kernel
theorem d22_36 : decode jdk_128_method_18_code 36=.ok (.bipush 52,2):=by decide +kernel
theorem d22_38 : decode jdk_128_method_18_code 38=.ok (.if_icmp .lt 5,3):=by decide +kernel
theorem d22_43 : decode jdk_128_method_18_code 43=.ok (.getstatic 70,3):=by decide +kernel
theorem d22_46 : decode jdk_128_method_18_code 46=.ok (.ifCond .ne 23,3):=by decide +kernel
theorem d22_69 : decode jdk_128_method_18_code 69=.ok (.dload_n 0,1):=by decide +kernel
theorem d22_70 : decode jdk_128_method_18_code 70=.ok (.invokestatic 77,3):=by decide +kernel
theorem d22_73 : decode jdk_128_method_18_code 73=.ok (.lstore 9,2):=by decide +kernel
theorem d22_75 : decode jdk_128_method_18_code 75=.ok (.ldc2_w 85,3):=by decide +kernel
theorem d22_78 : decode jdk_128_method_18_code 78=.ok (.iload 8,2):=by decide +kernel
theorem d22_80 : decode jdk_128_method_18_code 80=.ok (.lshr,1):=by decide +kernel
theorem d22_81 : decode jdk_128_method_18_code 81=.ok (.lstore 11,2):=by decide +kernel
theorem d22_83 : decode jdk_128_method_18_code 83=.ok (.lload 11,2):=by decide +kernel
theorem d22_85 : decode jdk_128_method_18_code 85=.ok (.lload 9,2):=by decide +kernel
theorem d22_87 : decode jdk_128_method_18_code 87=.ok (.land,1):=by decide +kernel
theorem d22_88 : decode jdk_128_method_18_code 88=.ok (.lconst 0,1):=by decide +kernel
theorem d22_89 : decode jdk_128_method_18_code 89=.ok (.lcmp,1):=by decide +kernel
theorem d22_90 : decode jdk_128_method_18_code 90=.ok (.ifCond .ne 5,3):=by decide +kernel
theorem d22_93 : decode jdk_128_method_18_code 93=.ok (.dload_n 0,1):=by decide +kernel
theorem d22_94 : decode jdk_128_method_18_code 94=.ok (.dreturn,1):=by decide +kernel
theorem d21_0 : decode jdk_128_method_17_code 0=.ok (.dload_n 0,1):=by decide +kernel
theorem d21_1 : decode jdk_128_method_17_code 1=.ok (.ldc2_w 64,3):=by decide +kernel
theorem d21_4 : decode jdk_128_method_17_code 4=.ok (.dconst 0,1):=by decide +kernel
theorem d21_5 : decode jdk_128_method_17_code 5=.ok (.ldc2_w 64,3):=by decide +kernel
theorem d21_8 : decode jdk_128_method_17_code 8=.ok (.invokestatic 60,3):=by decide +kernel
theorem d21_11 : decode jdk_128_method_17_code 11=.ok (.dreturn,1):=by decide +kernel
section FlB
open Jvm.Stand
theorem oGexp {p : Program} {l : Launch} {e : Env} {s : State} {args : Array Value} {below : List Frame} {x : UInt64} {h : Heap} (hexec : p.tables.exec = Jvm.exec) (n1 : (Jvm.Cond.native doubleToRawLongBitsName).before args s = true) (n2 : (Jvm.Cond.static doubleToRawLongBitsName).before args s = true) (n3 : (Jvm.Cond.initialized "java/lang/Double").before args s = true) (g1 : (Jvm.Cond.methodLink "java/lang/Math" 79 doubleToRawLongBitsName).before args s = true) (g2 : (Jvm.Cond.constantLong "java/lang/Math" 87 9218868437227405312).before args s = true) (g3 : (Jvm.Cond.constantLong "java/lang/Math" 322 1023).before args s = true) : oPur p l e s below nM17 jdk_29_method_92_code (some .int) #[.val (.double x), .second] (.int (oExp x)) h 2 200 := by
  intro m' meth' c' U X0 hb hm hret hown hh Sp
  obtain ⟨vm1, X1, st1⟩ := X0.raw (p := p) hexec hown g1 n1 n2 n3 (pc := 1) (L := #[.val (.double x), .second]) (rest := []) (x := x) (hb.symm ▸ d23_1) Sp (by decide) (Nat.le_of_ble_eq_true rfl)
  refine ⟨vm1, X1, fun fs hl => ?_⟩
  refine XS.dloadN X0.here hexec rfl (hb.symm ▸ d23_0) rfl ?_
  refine st1 _ ?_
  refine X1.ldcL hexec hown g2 (g := mkF m' 4 #[.val (.double x), .second] [.long x.toInt64]) rfl (hb.symm ▸ d23_4) _ ?_
  refine XT.land X1.here hexec rfl (hb.symm ▸ d23_7) rfl ?_
  refine XS.bipush X1.here hexec rfl (hb.symm ▸ d23_8) ?_
  refine XT.lshr X1.here hexec rfl (hb.symm ▸ d23_10) rfl ?_
  refine X1.ldcL hexec hown g3 (g := mkF m' 11 #[.val (.double x), .second] [_]) rfl (hb.symm ▸ d23_11) _ ?_
  refine XT.lsub X1.here hexec rfl (hb.symm ▸ d23_14) rfl ?_
  refine XT.l2i X1.here hexec rfl (hb.symm ▸ d23_15) rfl ?_
  exact X1.retI hexec hm hret (pc := 16) (L := #[.val (.double x), .second]) (rest := []) (hb.symm ▸ d23_16) hl
set_option maxRecDepth 65536 in
set_option maxHeartbeats 4000000 in
theorem oFoc {p : Program} {l : Launch} {e : Env} {s : State} {args : Array Value} {below : List Frame} {x : UInt64} {h : Heap} (hexec : p.tables.exec = Jvm.exec) {nb pb sg : UInt64} (hF : Sta s h "java/lang/StrictMath" "$assertionsDisabled" "Z" (.int 1)) (hwh : oWh x) (n1 : (Jvm.Cond.native doubleToRawLongBitsName).before args s = true) (n2 : (Jvm.Cond.static doubleToRawLongBitsName).before args s = true) (n3 : (Jvm.Cond.initialized "java/lang/Double").before args s = true) (g1 : (Jvm.Cond.methodLink "java/lang/Math" 79 doubleToRawLongBitsName).before args s = true) (g2 : (Jvm.Cond.constantLong "java/lang/Math" 87 9218868437227405312).before args s = true) (g3 : (Jvm.Cond.constantLong "java/lang/Math" 322 1023).before args s = true) (f1 : (Jvm.Cond.methodLink "java/lang/StrictMath" 66 nM17).before args s = true) (f2 : (Jvm.Cond.static nM17).before args s = true) (f3 : (Jvm.Cond.initialized "java/lang/Math").before args s = true) (f4 : (Jvm.Cond.code nM17 jdk_29_method_92_code 2 (some .int)).before args s = true) (f5 : (Jvm.Cond.fieldLink "java/lang/StrictMath" 70 "java/lang/StrictMath" "$assertionsDisabled" "Z").before args s = true) (f6 : (Jvm.Cond.methodLink "java/lang/StrictMath" 77 doubleToRawLongBitsName).before args s = true) (f7 : (Jvm.Cond.constantLong "java/lang/StrictMath" 85 4503599627370495).before args s = true) : oPur p l e s below nM18 jdk_128_method_18_code (some .double) #[.val (.double x), .second, .val (.double nb), .second, .val (.double pb), .second, .val (.double sg), .second, .unset, .unset, .unset, .unset, .unset, .unset, .unset] (.double x) h 3 300 := by
  intro m' meth' c' U X0 hb hm hret hown hh Sp
  subst hh
  obtain ⟨hw1, hw2, hw3, -⟩ := hwh
  obtain ⟨vm1, X1, st1⟩ := X0.call (p := p) hexec hown f1 f2 f3 f4 (by decide) (Jvm.Free.JP.mathPlain rfl (by decide +kernel)) (pc := 1) (L := #[.val (.double x), .second, .val (.double nb), .second, .val (.double pb), .second, .val (.double sg), .second, .unset, .unset, .unset, .unset, .unset, .unset, .unset]) (argsL := [.double x]) (rest := []) (lenOf (show parseMethodDescriptor "(D)I" = some ⟨[.double], some .int⟩ by decide +kernel) rfl) (hb.symm ▸ d22_1) (a := 2) (b := 300) Sp (by decide) (b' := 200) (Nat.le_of_ble_eq_true rfl) (by decide) (Ls := #[.val (.double x), .second]) (fun m => by first | rfl | simp [entryFrame, mkF, argsToLocals, Value.category]) (oGexp hexec n1 n2 n3 g1 g2 g3)
  obtain ⟨vm2, X2, st2⟩ := X1.getS (p := p) hexec hown f5 (show Sta s (U.setVm vm1).heap _ _ _ _ from hF) (g := mkF m' 43 #[.val (.double x), .second, .val (.double nb), .second, .val (.double pb), .second, .val (.double sg), .second, .val (.int (oExp x)), .unset, .unset, .unset, .unset, .unset, .unset] []) rfl (hb.symm ▸ d22_43)
  have Sp2 : oSp e ((U.setVm vm1).setVm vm2) 3 300 := Sp
  obtain ⟨vm3, X3, st3⟩ := X2.raw (p := p) hexec hown f6 n1 n2 n3 (pc := 70) (L := #[.val (.double x), .second, .val (.double nb), .second, .val (.double pb), .second, .val (.double sg), .second, .val (.int (oExp x)), .unset, .unset, .unset, .unset, .unset, .unset]) (rest := []) (x := x) (hb.symm ▸ d22_70) Sp2 (by decide) (Nat.le_of_ble_eq_true rfl)
  refine ⟨vm3, X3, fun fs hl => ?_⟩
  show Steps p.tables e below (U.setTop (mkF m' 0 #[.val (.double x), .second, .val (.double nb), .second, .val (.double pb), .second, .val (.double sg), .second, .unset, .unset, .unset, .unset, .unset, .unset, .unset] [])) _
  refine XS.dloadN X0.here hexec rfl (hb.symm ▸ d22_0) rfl ?_
  show Steps p.tables e below (U.setTop (mkF m' 1 #[.val (.double x), .second, .val (.double nb), .second, .val (.double pb), .second, .val (.double sg), .second, .unset, .unset, .unset, .unset, .unset, .unset, .unset] [.double x])) _
  refine st1 _ ?_
  show Steps p.tables e below ((U.setVm vm1).setTop (mkF m' 4 #[.val (.double x), .second, .val (.double nb), .second, .val (.double pb), .second, .val (.double sg), .second, .unset, .unset, .unset, .unset, .unset, .unset, .unset] [.int (oExp x)])) _
  refine XS.istore X1.here hexec rfl (hb.symm ▸ d22_4) rfl rfl ?_
  show Steps p.tables e below ((U.setVm vm1).setTop (mkF m' 6 #[.val (.double x), .second, .val (.double nb), .second, .val (.double pb), .second, .val (.double sg), .second, .val (.int (oExp x)), .unset, .unset, .unset, .unset, .unset, .unset] [])) _
  refine XS.iload X1.here hexec rfl (hb.symm ▸ d22_6) rfl ?_
  show Steps p.tables e below ((U.setVm vm1).setTop (mkF m' 8 #[.val (.double x), .second, .val (.double nb), .second, .val (.double pb), .second, .val (.double sg), .second, .val (.int (oExp x)), .unset, .unset, .unset, .unset, .unset, .unset] [.int (oExp x)])) _
  refine XS.ifYes X1.here hexec rfl rfl (hb.symm ▸ d22_8) rfl (by rw [if0]; exact oHge hw1) (by show (0 : Int) ≤ 8 + 26; decide) rfl ?_
  show Steps p.tables e below ((U.setVm vm1).setTop (mkF m' 34 #[.val (.double x), .second, .val (.double nb), .second, .val (.double pb), .second, .val (.double sg), .second, .val (.int (oExp x)), .unset, .unset, .unset, .unset, .unset, .unset] [])) _
  refine XS.iload X1.here hexec rfl (hb.symm ▸ d22_34) rfl ?_
  show Steps p.tables e below ((U.setVm vm1).setTop (mkF m' 36 #[.val (.double x), .second, .val (.double nb), .second, .val (.double pb), .second, .val (.double sg), .second, .val (.int (oExp x)), .unset, .unset, .unset, .unset, .unset, .unset] [.int (oExp x)])) _
  refine XS.bipush X1.here hexec rfl (hb.symm ▸ d22_36)  ?_
  show Steps p.tables e below ((U.setVm vm1).setTop (mkF m' 38 #[.val (.double x), .second, .val (.double nb), .second, .val (.double pb), .second, .val (.double sg), .second, .val (.int (oExp x)), .unset, .unset, .unset, .unset, .unset, .unset] [.int 52, .int (oExp x)])) _
  refine XS.icmpYes X1.here hexec rfl rfl (hb.symm ▸ d22_38) rfl (oHlt hw2) (by show (0 : Int) ≤ 38 + 5; decide) rfl ?_
  show Steps p.tables e below ((U.setVm vm1).setTop (mkF m' 43 #[.val (.double x), .second, .val (.double nb), .second, .val (.double pb), .second, .val (.double sg), .second, .val (.int (oExp x)), .unset, .unset, .unset, .unset, .unset, .unset] [])) _
  refine st2 _ ?_
  show Steps p.tables e below (((U.setVm vm1).setVm vm2).setTop (mkF m' 46 #[.val (.double x), .second, .val (.double nb), .second, .val (.double pb), .second, .val (.double sg), .second, .val (.int (oExp x)), .unset, .unset, .unset, .unset, .unset, .unset] [.int 1])) _
  refine XS.ifYes X2.here hexec rfl rfl (hb.symm ▸ d22_46) rfl (by decide) (by show (0 : Int) ≤ 46 + 23; decide) rfl ?_
  show Steps p.tables e below (((U.setVm vm1).setVm vm2).setTop (mkF m' 69 #[.val (.double x), .second, .val (.double nb), .second, .val (.double pb), .second, .val (.double sg), .second, .val (.int (oExp x)), .unset, .unset, .unset, .unset, .unset, .unset] [])) _
  refine XS.dloadN X2.here hexec rfl (hb.symm ▸ d22_69) rfl ?_
  show Steps p.tables e below (((U.setVm vm1).setVm vm2).setTop (mkF m' 70 #[.val (.double x), .second, .val (.double nb), .second, .val (.double pb), .second, .val (.double sg), .second, .val (.int (oExp x)), .unset, .unset, .unset, .unset, .unset, .unset] [.double x])) _
  refine st3 _ ?_
  show Steps p.tables e below ((((U.setVm vm1).setVm vm2).setVm vm3).setTop (mkF m' 73 #[.val (.double x), .second, .val (.double nb), .second, .val (.double pb), .second, .val (.double sg), .second, .val (.int (oExp x)), .unset, .unset, .unset, .unset, .unset, .unset] [.long x.toInt64])) _
  refine XS.lstore X3.here hexec rfl (hb.symm ▸ d22_73) rfl rfl ?_
  show Steps p.tables e below ((((U.setVm vm1).setVm vm2).setVm vm3).setTop (mkF m' 75 #[.val (.double x), .second, .val (.double nb), .second, .val (.double pb), .second, .val (.double sg), .second, .val (.int (oExp x)), .val (.long x.toInt64), .second, .unset, .unset, .unset, .unset] [])) _
  refine X3.ldcL hexec hown f7 (g := mkF m' 75 #[.val (.double x), .second, .val (.double nb), .second, .val (.double pb), .second, .val (.double sg), .second, .val (.int (oExp x)), .val (.long x.toInt64), .second, .unset, .unset, .unset, .unset] []) rfl (hb.symm ▸ d22_75) _ ?_
  show Steps p.tables e below ((((U.setVm vm1).setVm vm2).setVm vm3).setTop (mkF m' 78 #[.val (.double x), .second, .val (.double nb), .second, .val (.double pb), .second, .val (.double sg), .second, .val (.int (oExp x)), .val (.long x.toInt64), .second, .unset, .unset, .unset, .unset] [.long 4503599627370495])) _
  refine XS.iload X3.here hexec rfl (hb.symm ▸ d22_78) rfl ?_
  show Steps p.tables e below ((((U.setVm vm1).setVm vm2).setVm vm3).setTop (mkF m' 80 #[.val (.double x), .second, .val (.double nb), .second, .val (.double pb), .second, .val (.double sg), .second, .val (.int (oExp x)), .val (.long x.toInt64), .second, .unset, .unset, .unset, .unset] [.int (oExp x), .long 4503599627370495])) _
  refine XT.lshr X3.here hexec rfl (hb.symm ▸ d22_80) rfl ?_
  show Steps p.tables e below ((((U.setVm vm1).setVm vm2).setVm vm3).setTop (mkF m' 81 #[.val (.double x), .second, .val (.double nb), .second, .val (.double pb), .second, .val (.double sg), .second, .val (.int (oExp x)), .val (.long x.toInt64), .second, .unset, .unset, .unset, .unset] [.long ((4503599627370495 : Int64) >>> ((oExp x).toInt64 &&& 63))])) _
  refine XS.lstore X3.here hexec rfl (hb.symm ▸ d22_81) rfl rfl ?_
  show Steps p.tables e below ((((U.setVm vm1).setVm vm2).setVm vm3).setTop (mkF m' 83 #[.val (.double x), .second, .val (.double nb), .second, .val (.double pb), .second, .val (.double sg), .second, .val (.int (oExp x)), .val (.long x.toInt64), .second, .val (.long ((4503599627370495 : Int64) >>> ((oExp x).toInt64 &&& 63))), .second, .unset, .unset] [])) _
  refine XS.lload X3.here hexec rfl (hb.symm ▸ d22_83) rfl ?_
  show Steps p.tables e below ((((U.setVm vm1).setVm vm2).setVm vm3).setTop (mkF m' 85 #[.val (.double x), .second, .val (.double nb), .second, .val (.double pb), .second, .val (.double sg), .second, .val (.int (oExp x)), .val (.long x.toInt64), .second, .val (.long ((4503599627370495 : Int64) >>> ((oExp x).toInt64 &&& 63))), .second, .unset, .unset] [.long ((4503599627370495 : Int64) >>> ((oExp x).toInt64 &&& 63))])) _
  refine XS.lload X3.here hexec rfl (hb.symm ▸ d22_85) rfl ?_
  show Steps p.tables e below ((((U.setVm vm1).setVm vm2).setVm vm3).setTop (mkF m' 87 #[.val (.double x), .second, .val (.double nb), .second, .val (.double pb), .second, .val (.double sg), .second, .val (.int (oExp x)), .val (.long x.toInt64), .second, .val (.long ((4503599627370495 : Int64) >>> ((oExp x).toInt64 &&& 63))), .second, .unset, .unset] [.long x.toInt64, .long ((4503599627370495 : Int64) >>> ((oExp x).toInt64 &&& 63))])) _
  refine XT.land X3.here hexec rfl (hb.symm ▸ d22_87) rfl ?_
  show Steps p.tables e below ((((U.setVm vm1).setVm vm2).setVm vm3).setTop (mkF m' 88 #[.val (.double x), .second, .val (.double nb), .second, .val (.double pb), .second, .val (.double sg), .second, .val (.int (oExp x)), .val (.long x.toInt64), .second, .val (.long ((4503599627370495 : Int64) >>> ((oExp x).toInt64 &&& 63))), .second, .unset, .unset] [.long (oMskB x)])) _
  refine XT.lconst X3.here hexec rfl (hb.symm ▸ d22_88)  ?_
  show Steps p.tables e below ((((U.setVm vm1).setVm vm2).setVm vm3).setTop (mkF m' 89 #[.val (.double x), .second, .val (.double nb), .second, .val (.double pb), .second, .val (.double sg), .second, .val (.int (oExp x)), .val (.long x.toInt64), .second, .val (.long ((4503599627370495 : Int64) >>> ((oExp x).toInt64 &&& 63))), .second, .unset, .unset] [.long 0, .long (oMskB x)])) _
  refine XT.lcmp X3.here hexec rfl (hb.symm ▸ d22_89) rfl ?_
  show Steps p.tables e below ((((U.setVm vm1).setVm vm2).setVm vm3).setTop (mkF m' 90 #[.val (.double x), .second, .val (.double nb), .second, .val (.double pb), .second, .val (.double sg), .second, .val (.int (oExp x)), .val (.long x.toInt64), .second, .val (.long ((4503599627370495 : Int64) >>> ((oExp x).toInt64 &&& 63))), .second, .unset, .unset] [.int (XT.cmpL (oMskB x) 0)])) _
  refine XS.ifNo X3.here hexec rfl (hb.symm ▸ d22_90) rfl (by rw [show oMskB x = 0 from hw3]; decide) ?_
  show Steps p.tables e below ((((U.setVm vm1).setVm vm2).setVm vm3).setTop (mkF m' 93 #[.val (.double x), .second, .val (.double nb), .second, .val (.double pb), .second, .val (.double sg), .second, .val (.int (oExp x)), .val (.long x.toInt64), .second, .val (.long ((4503599627370495 : Int64) >>> ((oExp x).toInt64 &&& 63))), .second, .unset, .unset] [])) _
  refine XS.dloadN X3.here hexec rfl (hb.symm ▸ d22_93) rfl ?_
  exact X3.retD hexec hm hret (pc := 94) (L := #[.val (.double x), .second, .val (.double nb), .second, .val (.double pb), .second, .val (.double sg), .second, .val (.int (oExp x)), .val (.long x.toInt64), .second, .val (.long ((4503599627370495 : Int64) >>> ((oExp x).toInt64 &&& 63))), .second, .unset, .unset]) (rest := []) (hb.symm ▸ d22_94) hl
set_option maxRecDepth 65536 in
set_option maxHeartbeats 4000000 in
theorem oSFl {p : Program} {l : Launch} {e : Env} {s : State} {args : Array Value} {below : List Frame} {x : UInt64} {h : Heap} (hexec : p.tables.exec = Jvm.exec) (hF : Sta s h "java/lang/StrictMath" "$assertionsDisabled" "Z" (.int 1)) (hwh : oWh x) (n1 : (Jvm.Cond.native doubleToRawLongBitsName).before args s = true) (n2 : (Jvm.Cond.static doubleToRawLongBitsName).before args s = true) (n3 : (Jvm.Cond.initialized "java/lang/Double").before args s = true) (g1 : (Jvm.Cond.methodLink "java/lang/Math" 79 doubleToRawLongBitsName).before args s = true) (g2 : (Jvm.Cond.constantLong "java/lang/Math" 87 9218868437227405312).before args s = true) (g3 : (Jvm.Cond.constantLong "java/lang/Math" 322 1023).before args s = true) (f1 : (Jvm.Cond.methodLink "java/lang/StrictMath" 66 nM17).before args s = true) (f2 : (Jvm.Cond.static nM17).before args s = true) (f3 : (Jvm.Cond.initialized "java/lang/Math").before args s = true) (f4 : (Jvm.Cond.code nM17 jdk_29_method_92_code 2 (some .int)).before args s = true) (f5 : (Jvm.Cond.fieldLink "java/lang/StrictMath" 70 "java/lang/StrictMath" "$assertionsDisabled" "Z").before args s = true) (f6 : (Jvm.Cond.methodLink "java/lang/StrictMath" 77 doubleToRawLongBitsName).before args s = true) (f7 : (Jvm.Cond.constantLong "java/lang/StrictMath" 85 4503599627370495).before args s = true) (s1 : (Jvm.Cond.constantDouble "java/lang/StrictMath" 64 13830554455654793216).before args s = true) (s2 : (Jvm.Cond.methodLink "java/lang/StrictMath" 60 nM18).before args s = true) (s3 : (Jvm.Cond.static nM18).before args s = true) (s4 : (Jvm.Cond.initialized "java/lang/StrictMath").before args s = true) (s5 : (Jvm.Cond.code nM18 jdk_128_method_18_code 15 (some .double)).before args s = true) : oPur p l e s below nM19 jdk_128_method_17_code (some .double) #[.val (.double x), .second] (.double x) h 4 400 := by
  intro m' meth' c' U X0 hb hm hret hown hh Sp
  subst hh
  obtain ⟨vm1, X1, st1⟩ := X0.call (p := p) hexec hown s2 s3 s4 s5 (by decide) (plainFor_of_name (by first | (simp [plainName, overriddenIn]; done) | decide +kernel)) (pc := 8) (L := #[.val (.double x), .second]) (argsL := [.double x, .double 13830554455654793216, .double 0, .double 13830554455654793216]) (rest := []) (lenOf (show parseMethodDescriptor "(DDDD)D" = some ⟨[.double, .double, .double, .double], some .double⟩ by decide +kernel) rfl) (hb.symm ▸ d21_8) (a := 3) (b := 400) Sp (by decide) (b' := 300) (Nat.le_of_ble_eq_true rfl) (by decide) (Ls := #[.val (.double x), .second, .val (.double 13830554455654793216), .second, .val (.double 0), .second, .val (.double 13830554455654793216), .second, .unset, .unset, .unset, .unset, .unset, .unset, .unset]) (fun m => by first | (simp [entryFrame, mkF, argsToLocals, Value.category]; done) | rfl) (oFoc (nb := 13830554455654793216) (pb := 0) (sg := 13830554455654793216) hexec hF hwh n1 n2 n3 g1 g2 g3 f1 f2 f3 f4 f5 f6 f7)
  refine ⟨vm1, X1, fun fs hl => ?_⟩
  refine XS.dloadN X0.here hexec rfl (hb.symm ▸ d21_0) rfl ?_
  refine X0.ldcD hexec hown s1 (g := mkF m' 1 #[.val (.double x), .second] [.double x]) rfl (hb.symm ▸ d21_1) _ ?_
  refine XS.dconst0 X0.here hexec rfl (hb.symm ▸ d21_4) rfl ?_
  refine X0.ldcD hexec hown s1 (g := mkF m' 5 #[.val (.double x), .second] [.double 0, .double 13830554455654793216, .double x]) rfl (hb.symm ▸ d21_5) _ ?_
  refine st1 _ ?_
  exact X1.retD hexec hm hret (pc := 11) (L := #[.val (.double x), .second]) (rest := []) (hb.symm ▸ d21_11) hl
end FlB
set_option maxRecDepth 65536 in
set_option maxHeartbeats 4000000 in
theorem oW.floorW {p : Program} {l : Launch} {e : Env} {R : Room} {s : State} {m : MethodId} {args : Array Value} {below : List Frame} {meth : Method} {c : Code} {Z : State} {h0 : Heap} {own nm : String} {by0 : ByteArray} {ml : Nat} {ret : Option FieldType} {P : Option Value → oDs → Prop} {ds : oDs} {cells slots pc pc' : Nat} {Ls : Array Slot} {a0 : Array Value} (K : oK p s m meth c Z own by0 ml ret nm) {index : Nat} {x : UInt64} (hw : oHw a0 Z) (w1 : (Jvm.Cond.methodLink own index nM20).before a0 Z = true) (F : Sta Z h0 "java/lang/StrictMath" "$assertionsDisabled" "Z" (.int 1)) (hwh : oWh x) (hd : decode by0 pc = .ok (.invokestatic index, 3)) (hsz : Ls.size = ml) (hf : 6 ≤ R.frames) (hlo : 13 ≤ R.locals) (hp : pc + 3 = pc') (hr : oW p l e R s m args below meth c Z h0 P ds cells slots pc' Ls [.double x]) : oW p l e R s m args below meth c Z h0 P ds cells slots pc Ls [.double x] := by
  subst hp
  rintro T ⟨locs, X, N, M⟩
  have hcode := mvT (args := args) K.1.2.1 (hw 119)
  obtain ⟨mk, hnamed⟩ := Cond.code_named hcode
  obtain ⟨methM, cM, h1, h2, h3, h4, h5, h6, -, hsig⟩ := Cond.code_spec hnamed hcode
  have hst := Cond.static_spec hnamed h1 (mvT (args := args) K.1.2.1 (hw 118))
  obtain ⟨kP, hkP, hkname⟩ := className_of_methodNamed hnamed
  obtain ⟨hmn, hmd⟩ := name_of_methodNamed hnamed h1
  have hxP : kP.methods[mk.idx]? = some methM := by simpa [Vm.method?, hkP] using h1
  have hboot : kP.loader = none := Vm.bootOf_findClass (findClass_of_methodNamed hnamed) hkP
  have hinit : kP.init = .initialized := Cond.initialized_spec (findClass_of_methodNamed hnamed) hkP (mvT (args := args) K.1.2.1 (hw 7))
  have hlen : [Value.double x].length = methM.sig.parameters.length := lenOf (show parseMethodDescriptor "(D)D" = some ⟨[.double], some .double⟩ by decide +kernel) rfl _ hsig
  obtain ⟨vm1, X1, st⟩ := X.invokestatic K.1.1 K.2.1 (mvT K.1.2.1 w1) hnamed h1 hst hkP hinit (by decide) (g := mkF m pc Ls [.double x]) rfl (argsL := [.double x]) (rest := []) hlen rfl (hb K.1.2.2.1 hd)
  have B := oSFl (p := p) (l := l) (e := e) (args := args) (below := below) K.1.1 (show Sta s (T.setVm vm1).heap _ _ _ _ from oStaMove K.1.2.1 (F.ext M.1)) hwh (mvT K.1.2.1 (hw 134)) (mvT K.1.2.1 (hw 132)) (mvT K.1.2.1 (hw 133)) (mvT K.1.2.1 (hw 131)) (mvT K.1.2.1 (hw 135)) (mvT K.1.2.1 (hw 136)) (mvT K.1.2.1 (hw 128)) (mvT K.1.2.1 (hw 129)) (mvT K.1.2.1 (hw 7)) (mvT K.1.2.1 (hw 130)) (mvT K.1.2.1 (hw 137)) (mvT K.1.2.1 (hw 138)) (mvT K.1.2.1 (hw 139)) (mvT K.1.2.1 (hw 124)) (mvT K.1.2.1 (hw 125)) (mvT K.1.2.1 (hw 126)) (mvT K.1.2.1 (hw 122)) (mvT K.1.2.1 (hw 127))
  obtain ⟨vm2, hW2, run⟩ := oFloorRun X1 hkP hxP hboot hkname hmn hmd hsig h2 h4 h6 (S_ := nM19) rfl rfl rfl (plainFor_of_name (by first | (simp [plainName, overriddenIn]; done) | decide +kernel)) (mvT (args := args) K.1.2.1 (hw 122)) (mvT (args := args) K.1.2.1 (hw 123)) B hwh.2.2.2 (pc := pc) (Ls := Ls) (S := []) (hsz.trans K.1.2.2.2.symm) ⟨_, hb K.1.2.2.1 hd⟩ hf (by decide) (by simpa using hlo)
  exact oW.ends (fun t k => st t fun acts => run acts t k) (hr ((T.setVm vm1).setVm vm2) ⟨_, X1.noted hW2, N, M⟩)
section FlP
open Jvm.FP Jvm.FP.Core
theorem oPick {a b : UInt64} {i j : Int} (ha : DInt i a) (hb : DInt j b) : DInt (min i j) (Native.java_lang_Math.nans.pick64 false a b) := by
  unfold Native.java_lang_Math.nans.pick64
  rw [show FP.dcmp a b = some (compare i j) from dcmp_int ha hb, compare_ite]
  by_cases h1 : i < j
  · rw [if_pos h1, show min i j = i by omega]; exact ha
  · rw [if_neg h1]
    by_cases h2 : i = j
    · rw [if_pos h2]
      subst h2
      rw [show min i i = i by omega]
      show DInt i (if _ then b else a)
      split
      · exact hb
      · exact ha
    · rw [if_neg h2, show min i j = j by omega]; exact hb
end FlP
set_option maxRecDepth 65536 in
set_option maxHeartbeats 4000000 in
theorem oW.minDW {p : Program} {l : Launch} {e : Env} {R : Room} {s : State} {m : MethodId} {args : Array Value} {below : List Frame} {meth : Method} {c : Code} {Z : State} {h0 : Heap} {own nm : String} {by0 : ByteArray} {ml : Nat} {ret : Option FieldType} {P : Option Value → oDs → Prop} {ds : oDs} {cells slots pc pc' : Nat} {Ls : Array Slot} {a0 : Array Value} (K : oK p s m meth c Z own by0 ml ret nm) {index : Nat} {x y v : UInt64} (hw : oHw a0 Z) (w1 : (Jvm.Cond.methodLink own index nM21).before a0 Z = true) (hx : Jvm.Free.Fl.NoNaN64 x) (hy : Jvm.Free.Fl.NoNaN64 y) (hv : v = Native.java_lang_Math.nans.pick64 false x y) (hd : decode by0 pc = .ok (.invokestatic index, 3)) (hsz : Ls.size = ml) (hf : 1 ≤ R.frames) (hlo : 15 ≤ R.locals) (hc : cells ≤ R.cells) (hs : slots ≤ R.slots) (hp : pc + 3 = pc') (hr : oW p l e R s m args below meth c Z h0 P ds cells slots pc' Ls [.double v]) : oW p l e R s m args below meth c Z h0 P ds cells slots pc Ls [.double y, .double x] := by
  subst hp hv
  rintro T ⟨locs, X, N, M⟩
  obtain ⟨v, vm1, ⟨T', L', k', n'⟩, -, X', ⟨hv, hB⟩, st⟩ := Jvm.LawKit.callS X K.1.1 K.2.1 (mvT K.1.2.1 w1) (mvT K.1.2.1 (hw 141)) (mvT K.1.2.1 (hw 7)) (mvT K.1.2.1 (hw 142)) (by decide) (Jvm.Free.Fl.Abs.minD_pays (W := 0) x y (mvT (args := args) K.1.2.1 (hw 142)) hf (by omega)) (g := mkF m pc Ls [.double y, .double x]) rfl (hsz.trans K.1.2.2.2.symm) (argsL := [.double x, .double y]) (rest := []) (lenOf (show parseMethodDescriptor "(DD)D" = some ⟨[.double, .double], some .double⟩ by decide +kernel) rfl) rfl (Nat.le_of_eq rfl) (hb K.1.2.2.1 hd) (fun _ _ => ⟨hc, hs, rfl, hx, hy⟩)
  subst hv
  cases hB
  exact oW.ends st (hr _ ⟨_, X', N, M⟩)
abbrev e7 (n : Nat) := decode prog_7_method_4_code n
theorem d7_0 : e7 0=.ok (.iconst 0,1):=by decide +kernel
theorem d7_1 : e7 1=.ok (.istore_n 1,1):=by decide +kernel
theorem d7_2 : e7 2=.ok (.iload_n 1,1):=by decide +kernel
theorem d7_3 : e7 3=.ok (.aload_n 0,1):=by decide +kernel
theorem d7_4 : e7 4=.ok (.getfield 66,3):=by decide +kernel
theorem d7_7 : e7 7=.ok (.if_icmp .ge 29,3):=by decide +kernel
theorem d7_10 : e7 10=.ok (.aload_n 0,1):=by decide +kernel
theorem d7_11 : e7 11=.ok (.getfield 32,3):=by decide +kernel
theorem d7_14 : e7 14=.ok (.aload_n 0,1):=by decide +kernel
theorem d7_15 : e7 15=.ok (.getfield 42,3):=by decide +kernel
theorem d7_18 : e7 18=.ok (.iload_n 1,1):=by decide +kernel
theorem d7_19 : e7 19=.ok (.iaload,1):=by decide +kernel
theorem d7_20 : e7 20=.ok (.ldc 35,2):=by decide +kernel
theorem d7_22 : e7 22=.ok (.iastore,1):=by decide +kernel
theorem d7_23 : e7 23=.ok (.aload_n 0,1):=by decide +kernel
theorem d7_24 : e7 24=.ok (.getfield 46,3):=by decide +kernel
theorem d7_27 : e7 27=.ok (.iload_n 1,1):=by decide +kernel
theorem d7_28 : e7 28=.ok (.aconst_null,1):=by decide +kernel
theorem d7_29 : e7 29=.ok (.aastore,1):=by decide +kernel
theorem d7_30 : e7 30=.ok (.iinc 1 1,3):=by decide +kernel
theorem d7_33 : e7 33=.ok (.goto (-31),3):=by decide +kernel
theorem d7_36 : e7 36=.ok (.aload_n 0,1):=by decide +kernel
theorem d7_37 : e7 37=.ok (.iconst 0,1):=by decide +kernel
theorem d7_38 : e7 38=.ok (.putfield 66,3):=by decide +kernel
theorem d7_41 : e7 41=.ok (.aload_n 0,1):=by decide +kernel
theorem d7_42 : e7 42=.ok (.aconst_null,1):=by decide +kernel
theorem d7_43 : e7 43=.ok (.putfield 85,3):=by decide +kernel
theorem d7_46 : e7 46=.ok (.return_,1):=by decide +kernel
theorem own_clear0 (hw : oHw a0 Z) {D0 D1 D2 D4 D5 D6 D7 D8 D9 D10 D11 D12 D13 : oDsc} {f_an f_mc f_cn f_dl f_wi f_cc f_rc f_hd f_ea : Value} :
  oCtr l Z h0 [] nM22 prog_7_method_4_code 2 none (oR 0 0 0 0) #[.ref b3] [(b0,D0),(b1,D1),(b2,D2),(b3,oP b10 b13 b11 b12 b4 b5 b6 b7 b8 b9 (.int 0) f_an f_mc f_cn f_dl f_wi f_cc f_rc f_hd f_ea),(b4,D4),(b5,D5),(b6,D6),(b7,D7),(b8,D8),(b9,D9),(b10,D10),(b11,D11),(b12,D12),(b13,D13)] (oVoid fun d=>d=[(b0,D0),(b1,D1),(b2,D2),(b3,oP b10 b13 b11 b12 b4 b5 b6 b7 b8 b9 (.int 0) .null f_mc f_cn f_dl f_wi f_cc f_rc f_hd f_ea),(b4,D4),(b5,D5),(b6,D6),(b7,D7),(b8,D8),(b9,D9),(b10,D10),(b11,D11),(b12,D12),(b13,D13)]):=by
 refine oCo #[.val (.ref b3),.unset] ?_
 intro p e s m below meth c K
 refine Yd 0 1 K d7_0 ?_
 refine Yz 2 K d7_1 U1 <|Ye 3 K d7_2 <|Ya 4 K d7_3 <|Yc 3 10 7 K (hw 57) d7_4 ?_
 refine Y8 36 10 K d7_7 <|Ya 37 K d7_36 <|Yd 0 38 K d7_37 ?_
 refine Yl 3 10 .int 41 K (hw 57) (Or.inl (hw 58)) (hw 10) (oAp_0 @hw) d7_38 rfl rfl (P3 F10) <|Ya 42 K d7_41 <|Hj 43 K d7_42 ?_
 refine Yl 3 11 (.array .int) 46 K (hw 59) (Or.inl (hw 60)) (hw 10) (oAp_0 @hw) d7_43 rfl rfl (P3 F11) ?_
 exact Ga K d7_46 ⟨rfl,rfl⟩
theorem own_clear2 (hw : oHw a0 Z) {D0 D1 D2 D4 D5 D9 D10 D11 D12 D13 : oDsc} {f_an f_mc f_cn f_dl f_wi f_cc f_rc f_hd f_ea : Value} {q0 q1 : Value} :
  oCtr l Z h0 [] nM22 prog_7_method_4_code 2 none (oR 0 0 0 0) #[.ref b3] [(b0,D0),(b1,D1),(b2,D2),(b3,oP b10 b13 b11 b12 b4 b5 b6 b7 b8 b9 (.int 2) f_an f_mc f_cn f_dl f_wi f_cc f_rc f_hd f_ea),(b4,D4),(b5,D5),(b6,.inl (.int,[.int 0,.int 1,.int 2147483647])),(b7,.inl (.int,[.int 0,.int 1,.int 0])),(b8,.inl (.array .int,[q0,q1,.null])),(b9,D9),(b10,D10),(b11,D11),(b12,D12),(b13,D13)] (oVoid fun d=>d=[(b0,D0),(b1,D1),(b2,D2),(b3,oP b10 b13 b11 b12 b4 b5 b6 b7 b8 b9 (.int 0) .null f_mc f_cn f_dl f_wi f_cc f_rc f_hd f_ea),(b4,D4),(b5,D5),(b6,.inl (.int,[.int 2147483647,.int 2147483647,.int 2147483647])),(b7,.inl (.int,[.int 0,.int 1,.int 0])),(b8,.inl (.array .int,[.null,.null,.null])),(b9,D9),(b10,D10),(b11,D11),(b12,D12),(b13,D13)]):=by
 refine oCo #[.val (.ref b3),.unset] ?_
 intro p e s m below meth c K
 refine Yd 0 1 K d7_0 ?_
 refine Yz 2 K d7_1 U1 <|Ye 3 K d7_2 <|Ya 4 K d7_3 <|Yc 3 10 7 K (hw 57) d7_4 ?_
 refine Yy 36 10 K d7_7 <|Ya 11 K d7_10 <|Yc 3 6 14 K (hw 32) d7_11 <|Ya 15 K d7_14 <|Yc 3 7 18 K (hw 39) d7_15 <|Ye 19 K d7_18 <|Yn 7 0 20 K d7_19 ?_
 refine G8 22 K (hw 34) d7_20 ?_
 refine Yr 6 0 23 K d7_22 rfl (S6 T0) <|Ya 24 K d7_23 <|Yc 3 8 27 K (hw 43) d7_24 <|Ye 28 K d7_27 <|Hj 29 K d7_28 ?_
 refine Hs 8 0 30 K d7_29 rfl (S8 T0) ?_
 refine Yg 1 33 K d7_30 U1 <|Yi 2 K d7_33 <|Ye 3 K d7_2 <|Ya 4 K d7_3 <|Yc 3 10 7 K (hw 57) d7_4 ?_
 refine Yy 36 10 K d7_7 <|Ya 11 K d7_10 <|Yc 3 6 14 K (hw 32) d7_11 <|Ya 15 K d7_14 <|Yc 3 7 18 K (hw 39) d7_15 <|Ye 19 K d7_18 <|Yn 7 1 20 K d7_19 ?_
 refine G8 22 K (hw 34) d7_20 ?_
 refine Yr 6 1 23 K d7_22 rfl (S6 T1) <|Ya 24 K d7_23 <|Yc 3 8 27 K (hw 43) d7_24 <|Ye 28 K d7_27 <|Hj 29 K d7_28 ?_
 refine Hs 8 1 30 K d7_29 rfl (S8 T1) ?_
 refine Yg 2 33 K d7_30 U1 <|Yi 2 K d7_33 <|Ye 3 K d7_2 <|Ya 4 K d7_3 <|Yc 3 10 7 K (hw 57) d7_4 ?_
 refine Y8 36 10 K d7_7 <|Ya 37 K d7_36 <|Yd 0 38 K d7_37 ?_
 refine Yl 3 10 .int 41 K (hw 57) (Or.inl (hw 58)) (hw 10) (oAp_0 @hw) d7_38 rfl rfl (P3 F10) <|Ya 42 K d7_41 <|Hj 43 K d7_42 ?_
 refine Yl 3 11 (.array .int) 46 K (hw 59) (Or.inl (hw 60)) (hw 10) (oAp_0 @hw) d7_43 rfl rfl (P3 F11) ?_
 exact Ga K d7_46 ⟨rfl,rfl⟩
abbrev e6 (n : Nat) := decode prog_7_method_2_code n
theorem d6_0 : e6 0=.ok (.aload_n 0,1):=by decide +kernel
theorem d6_1 : e6 1=.ok (.invokevirtual 53,3):=by decide +kernel
theorem d6_4 : e6 4=.ok (.iconst 0,1):=by decide +kernel
theorem d6_5 : e6 5=.ok (.istore_n 2,1):=by decide +kernel
theorem d6_6 : e6 6=.ok (.iload_n 2,1):=by decide +kernel
theorem d6_7 : e6 7=.ok (.aload_n 0,1):=by decide +kernel
theorem d6_8 : e6 8=.ok (.getfield 56,3):=by decide +kernel
theorem d6_11 : e6 11=.ok (.if_icmp .ge 21,3):=by decide +kernel
theorem d6_32 : e6 32=.ok (.aload_n 0,1):=by decide +kernel
theorem d6_33 : e6 33=.ok (.iconst 0,1):=by decide +kernel
theorem d6_34 : e6 34=.ok (.putfield 56,3):=by decide +kernel
theorem d6_37 : e6 37=.ok (.aload_n 0,1):=by decide +kernel
theorem d6_38 : e6 38=.ok (.iconst 0,1):=by decide +kernel
theorem d6_39 : e6 39=.ok (.putfield 60,3):=by decide +kernel
theorem d6_42 : e6 42=.ok (.aload_n 0,1):=by decide +kernel
theorem d6_43 : e6 43=.ok (.iload_n 1,1):=by decide +kernel
theorem d6_44 : e6 44=.ok (.putfield 63,3):=by decide +kernel
theorem d6_47 : e6 47=.ok (.return_,1):=by decide +kernel
theorem own_start (hw : oHw a0 Z) {D0 D1 D2 D4 D5 D6 D7 D8 D9 D10 D11 D12 D13 : oDsc} {f_an f_cn f_dl f_wi f_cc f_rc f_hd f_ea : Value} {dl : Int32} :
  oCtr l Z h0 [] nM12 prog_7_method_2_code 3 none (oR 1 0 0 24) #[.ref b3,.int dl] [(b0,D0),(b1,D1),(b2,D2),(b3,oP b10 b13 b11 b12 b4 b5 b6 b7 b8 b9 (.int 0) f_an (.int 0) f_cn f_dl f_wi f_cc f_rc f_hd f_ea),(b4,D4),(b5,D5),(b6,D6),(b7,D7),(b8,D8),(b9,D9),(b10,D10),(b11,D11),(b12,D12),(b13,D13)] (oVoid fun d=>d=[(b0,D0),(b1,D1),(b2,D2),(b3,oP b10 b13 b11 b12 b4 b5 b6 b7 b8 b9 (.int 0) .null (.int 0) (.int 0) (.int dl) f_wi f_cc f_rc f_hd f_ea),(b4,D4),(b5,D5),(b6,D6),(b7,D7),(b8,D8),(b9,D9),(b10,D10),(b11,D11),(b12,D12),(b13,D13)]):=by
 refine oCo #[.val (.ref b3),.val (.int dl),.unset] ?_
 intro p e s m below meth c K
 refine Ya 1 K d6_0 ?_
 refine Y7 b3 [] [] 0 0 0 4 K (hw 52) (hw 53) (hw 55) (hw 54) (hw 56) (hw 11) (oNF (hw 55)) (own_clear0 @hw) (lenOf pd_4 rfl) d6_1 ?_
 rintro _ rfl
 refine Yd 0 5 K d6_4 ?_
 refine Yz 6 K d6_5 U2 <|Ye 7 K d6_6 <|Ya 8 K d6_7 <|Yc 3 12 11 K (hw 61) d6_8 ?_
 refine Y8 32 14 K d6_11 <|Ya 33 K d6_32 <|Yd 0 34 K d6_33 ?_
 refine Yl 3 12 .int 37 K (hw 61) (Or.inl (hw 62)) (hw 10) (oAp_0 @hw) d6_34 rfl rfl (P3 F12) <|Ya 38 K d6_37 <|Yd 0 39 K d6_38 ?_
 refine Yl 3 13 .int 42 K (hw 63) (Or.inl (hw 64)) (hw 10) (oAp_0 @hw) d6_39 rfl rfl (P3 F13) <|Ya 43 K d6_42 <|Ye 44 K d6_43 ?_
 refine Yl 3 14 .int 47 K (hw 65) (Or.inl (hw 66)) (hw 10) (oAp_0 @hw) d6_44 rfl rfl (P3 F14) ?_
 exact Ga K d6_47 ⟨rfl,rfl⟩
abbrev e34 (n : Nat) := decode prog_7_method_6_code n
theorem d34_0 : e34 0=.ok (.aload_n 0,1):=by decide +kernel
theorem d34_1 : e34 1=.ok (.getfield 22,3):=by decide +kernel
theorem d34_4 : e34 4=.ok (.iload_n 1,1):=by decide +kernel
theorem d34_5 : e34 5=.ok (.iaload,1):=by decide +kernel
theorem d34_6 : e34 6=.ok (.ireturn,1):=by decide +kernel
theorem own_len0 (hw : oHw a0 Z) {D0 D1 D2 D4 D5 D6 D7 D8 D9 D10 D11 D13 : oDsc} {f_wc f_an f_mc f_cn f_dl f_wi f_cc f_rc f_hd f_ea : Value} {cvs : List Value} {lz : Int32} (hv : cvs[0]?=some (.int lz)) :
  oCtr l Z h0 [] nM23 prog_7_method_6_code 2 (some .int) (oR 0 0 0 0) #[.ref b3,.int 0] [(b0,D0),(b1,D1),(b2,D2),(b3,oP b10 b13 b11 b12 b4 b5 b6 b7 b8 b9 f_wc f_an f_mc f_cn f_dl f_wi f_cc f_rc f_hd f_ea),(b4,D4),(b5,D5),(b6,D6),(b7,D7),(b8,D8),(b9,D9),(b10,D10),(b11,D11),(b12,.inl (.int,cvs)),(b13,D13)] (oVal fun w d=>w=.int lz∧d=[(b0,D0),(b1,D1),(b2,D2),(b3,oP b10 b13 b11 b12 b4 b5 b6 b7 b8 b9 f_wc f_an f_mc f_cn f_dl f_wi f_cc f_rc f_hd f_ea),(b4,D4),(b5,D5),(b6,D6),(b7,D7),(b8,D8),(b9,D9),(b10,D10),(b11,D11),(b12,.inl (.int,cvs)),(b13,D13)]):=by
 refine oCo #[.val (.ref b3),.val (.int 0)] ?_
 intro p e s m below meth c K
 refine Ya 1 K d34_0 <|Yc 3 3 4 K (hw 25) d34_1 <|Ye 5 K d34_4 ?_
 refine oW.iaload (i:=12) (k:=0) (pc':=6) K d34_5 rfl (by decide) (by omega) hv rfl ?_
 exact Yq K d34_6 ⟨_,rfl,rfl,rfl⟩
theorem own_len1 (hw : oHw a0 Z) {D0 D1 D2 D4 D5 D6 D7 D8 D9 D10 D11 D13 : oDsc} {f_wc f_an f_mc f_cn f_dl f_wi f_cc f_rc f_hd f_ea : Value} {cvs : List Value} {lz : Int32} (hv : cvs[1]?=some (.int lz)) :
  oCtr l Z h0 [] nM23 prog_7_method_6_code 2 (some .int) (oR 0 0 0 0) #[.ref b3,.int 1] [(b0,D0),(b1,D1),(b2,D2),(b3,oP b10 b13 b11 b12 b4 b5 b6 b7 b8 b9 f_wc f_an f_mc f_cn f_dl f_wi f_cc f_rc f_hd f_ea),(b4,D4),(b5,D5),(b6,D6),(b7,D7),(b8,D8),(b9,D9),(b10,D10),(b11,D11),(b12,.inl (.int,cvs)),(b13,D13)] (oVal fun w d=>w=.int lz∧d=[(b0,D0),(b1,D1),(b2,D2),(b3,oP b10 b13 b11 b12 b4 b5 b6 b7 b8 b9 f_wc f_an f_mc f_cn f_dl f_wi f_cc f_rc f_hd f_ea),(b4,D4),(b5,D5),(b6,D6),(b7,D7),(b8,D8),(b9,D9),(b10,D10),(b11,D11),(b12,.inl (.int,cvs)),(b13,D13)]):=by
 refine oCo #[.val (.ref b3),.val (.int 1)] ?_
 intro p e s m below meth c K
 refine Ya 1 K d34_0 <|Yc 3 3 4 K (hw 25) d34_1 <|Ye 5 K d34_4 ?_
 refine oW.iaload (i:=12) (k:=1) (pc':=6) K d34_5 rfl (by decide) (by omega) hv rfl ?_
 exact Yq K d34_6 ⟨_,rfl,rfl,rfl⟩
abbrev e5 (n : Nat) := decode jdk_65_method_103_code n
theorem d5_0 : e5 0=.ok (.iconst 0,1):=by decide +kernel
theorem d5_1 : e5 1=.ok (.istore_n 2,1):=by decide +kernel
theorem d5_2 : e5 2=.ok (.aload_n 0,1):=by decide +kernel
theorem d5_3 : e5 3=.ok (.arraylength,1):=by decide +kernel
theorem d5_4 : e5 4=.ok (.istore_n 3,1):=by decide +kernel
theorem d5_5 : e5 5=.ok (.iload_n 2,1):=by decide +kernel
theorem d5_6 : e5 6=.ok (.iload_n 3,1):=by decide +kernel
theorem d5_7 : e5 7=.ok (.if_icmp .ge 13,3):=by decide +kernel
theorem d5_10 : e5 10=.ok (.aload_n 0,1):=by decide +kernel
theorem d5_11 : e5 11=.ok (.iload_n 2,1):=by decide +kernel
theorem d5_12 : e5 12=.ok (.iload_n 1,1):=by decide +kernel
theorem d5_13 : e5 13=.ok (.iastore,1):=by decide +kernel
theorem d5_14 : e5 14=.ok (.iinc 2 1,3):=by decide +kernel
theorem d5_17 : e5 17=.ok (.goto (-12),3):=by decide +kernel
theorem d5_20 : e5 20=.ok (.return_,1):=by decide +kernel
theorem own_fillR (hw : oHw a0 Z) {D0 D1 D2 D3 D4 D5 D6 D7 D8 D9 : oDsc} :
  oCtr l Z h0 [] nM24 jdk_65_method_103_code 4 none (oR 0 0 0 0) #[.ref b10,.int 2147483647] [(b0,D0),(b1,D1),(b2,D2),(b3,D3),(b4,D4),(b5,D5),(b6,D6),(b7,D7),(b8,D8),(b9,D9),(b10,.inl (.int,[.int 0,.int 0,.int 0]))] (oVoid fun d=>d=[(b0,D0),(b1,D1),(b2,D2),(b3,D3),(b4,D4),(b5,D5),(b6,D6),(b7,D7),(b8,D8),(b9,D9),(b10,.inl (.int,[.int 2147483647,.int 2147483647,.int 2147483647]))]):=by
 refine oCo #[.val (.ref b10),.val (.int 2147483647),.unset,.unset] ?_
 intro p e s m below meth c K
 refine Yd 0 1 K d5_0 ?_
 refine Yz 2 K d5_1 U2 <|Ya 3 K d5_2 <|Yf 10 3 4 K d5_3 ?_
 refine Yz 5 K d5_4 U3 <|Ye 6 K d5_5 <|Ye 7 K d5_6 ?_
 refine Yy 20 10 K d5_7 <|Ya 11 K d5_10 <|Ye 12 K d5_11 <|Ye 13 K d5_12 ?_
 refine Yr 10 0 14 K d5_13 rfl (S10 T0) ?_
 refine Yg 1 17 K d5_14 U2 <|Yi 5 K d5_17 <|Ye 6 K d5_5 <|Ye 7 K d5_6 ?_
 refine Yy 20 10 K d5_7 <|Ya 11 K d5_10 <|Ye 12 K d5_11 <|Ye 13 K d5_12 ?_
 refine Yr 10 1 14 K d5_13 rfl (S10 T1) ?_
 refine Yg 2 17 K d5_14 U2 <|Yi 5 K d5_17 <|Ye 6 K d5_5 <|Ye 7 K d5_6 ?_
 refine Yy 20 10 K d5_7 <|Ya 11 K d5_10 <|Ye 12 K d5_11 <|Ye 13 K d5_12 ?_
 refine Yr 10 2 14 K d5_13 rfl (S10 T2) ?_
 refine Yg 3 17 K d5_14 U2 <|Yi 5 K d5_17 <|Ye 6 K d5_5 <|Ye 7 K d5_6 ?_
 refine Y8 20 10 K d5_7 ?_
 exact Ga K d5_20 ⟨rfl,rfl⟩
abbrev e3 (n : Nat) := decode prog_7_method_1_code n
theorem d3_0 : e3 0=.ok (.aload_n 0,1):=by decide +kernel
theorem d3_1 : e3 1=.ok (.invokespecial 3,3):=by decide +kernel
theorem d3_4 : e3 4=.ok (.aload_n 0,1):=by decide +kernel
theorem d3_5 : e3 5=.ok (.iconst 0,1):=by decide +kernel
theorem d3_6 : e3 6=.ok (.newarray .long,2):=by decide +kernel
theorem d3_8 : e3 8=.ok (.putfield 9,3):=by decide +kernel
theorem d3_11 : e3 11=.ok (.aload_n 0,1):=by decide +kernel
theorem d3_12 : e3 12=.ok (.iconst 0,1):=by decide +kernel
theorem d3_13 : e3 13=.ok (.newarray .int,2):=by decide +kernel
theorem d3_15 : e3 15=.ok (.putfield 15,3):=by decide +kernel
theorem d3_18 : e3 18=.ok (.aload_n 0,1):=by decide +kernel
theorem d3_19 : e3 19=.ok (.iconst 0,1):=by decide +kernel
theorem d3_20 : e3 20=.ok (.newarray .long,2):=by decide +kernel
theorem d3_22 : e3 22=.ok (.putfield 19,3):=by decide +kernel
theorem d3_25 : e3 25=.ok (.aload_n 0,1):=by decide +kernel
theorem d3_26 : e3 26=.ok (.iconst 0,1):=by decide +kernel
theorem d3_27 : e3 27=.ok (.newarray .int,2):=by decide +kernel
theorem d3_29 : e3 29=.ok (.putfield 22,3):=by decide +kernel
theorem d3_32 : e3 32=.ok (.aload_n 0,1):=by decide +kernel
theorem d3_33 : e3 33=.ok (.iload_n 1,1):=by decide +kernel
theorem d3_34 : e3 34=.ok (.newarray .boolean,2):=by decide +kernel
theorem d3_36 : e3 36=.ok (.putfield 25,3):=by decide +kernel
theorem d3_39 : e3 39=.ok (.aload_n 0,1):=by decide +kernel
theorem d3_40 : e3 40=.ok (.iload_n 1,1):=by decide +kernel
theorem d3_41 : e3 41=.ok (.newarray .int,2):=by decide +kernel
theorem d3_43 : e3 43=.ok (.putfield 29,3):=by decide +kernel
theorem d3_46 : e3 46=.ok (.aload_n 0,1):=by decide +kernel
theorem d3_47 : e3 47=.ok (.iload_n 1,1):=by decide +kernel
theorem d3_48 : e3 48=.ok (.newarray .int,2):=by decide +kernel
theorem d3_50 : e3 50=.ok (.putfield 32,3):=by decide +kernel
theorem d3_53 : e3 53=.ok (.aload_n 0,1):=by decide +kernel
theorem d3_54 : e3 54=.ok (.getfield 32,3):=by decide +kernel
theorem d3_57 : e3 57=.ok (.ldc 35,2):=by decide +kernel
theorem d3_59 : e3 59=.ok (.invokestatic 36,3):=by decide +kernel
theorem d3_62 : e3 62=.ok (.aload_n 0,1):=by decide +kernel
theorem d3_63 : e3 63=.ok (.iload_n 1,1):=by decide +kernel
theorem d3_64 : e3 64=.ok (.newarray .int,2):=by decide +kernel
theorem d3_66 : e3 66=.ok (.putfield 42,3):=by decide +kernel
theorem d3_69 : e3 69=.ok (.aload_n 0,1):=by decide +kernel
theorem d3_70 : e3 70=.ok (.iload_n 1,1):=by decide +kernel
theorem d3_71 : e3 71=.ok (.anewarray 45,3):=by decide +kernel
theorem d3_74 : e3 74=.ok (.putfield 46,3):=by decide +kernel
theorem d3_77 : e3 77=.ok (.aload_n 0,1):=by decide +kernel
theorem d3_78 : e3 78=.ok (.iload_n 1,1):=by decide +kernel
theorem d3_79 : e3 79=.ok (.newarray .int,2):=by decide +kernel
theorem d3_81 : e3 81=.ok (.putfield 50,3):=by decide +kernel
theorem d3_84 : e3 84=.ok (.return_,1):=by decide +kernel
theorem pd_10 : parseMethodDescriptor "([II)V" = some ⟨[(.array .int), .int], none⟩ := by decide +kernel
theorem own_init (hw : oHw a0 Z) {D0 D1 D2 : oDsc} :
  oCtr l Z h0 [] nM25 prog_7_method_1_code 2 none (oR 1 10 18 24) #[.ref b3,.int 3] [(b0,D0),(b1,D1),(b2,D2),(b3,oO .null .null .null .null .null .null .null .null .null .null (.int 0) .null (.int 0) (.int 0) (.int 0) (.int 0) (.int 0) (.int 0) (.int 0) (.int 0))] (oVoid fun d=>∃ (b4 b5 b6 b7 b8 b9 b10 b11 b12 b13 : Addr),d=[(b0,D0),(b1,D1),(b2,D2),(b3,oP b10 b13 b11 b12 b4 b5 b6 b7 b8 b9 (.int 0) .null (.int 0) (.int 0) (.int 0) (.int 0) (.int 0) (.int 0) (.int 0) (.int 0)),(b4,.inl (.boolean,[.int 0,.int 0,.int 0])),(b5,.inl (.int,[.int 0,.int 0,.int 0])),(b6,.inl (.int,[.int 2147483647,.int 2147483647,.int 2147483647])),(b7,.inl (.int,[.int 0,.int 0,.int 0])),(b8,.inl (.array .int,[.null,.null,.null])),(b9,.inl (.int,[.int 0,.int 0,.int 0])),(b10,.inl (.long,[])),(b11,.inl (.long,[])),(b12,.inl (.int,[])),(b13,.inl (.int,[]))]):=by
 refine oCo #[.val (.ref b3),.val (.int 3)] ?_
 intro p e s m below meth c K
 refine Ya 1 K d3_0 ?_
 refine H3 0 4 K (hw 15) (hw 16) (hw 17) d3_1 <|Ya 5 K d3_4 <|Yd 0 6 K d3_5 ?_
 refine Y3 0 1 0 8 K (hw 18) d3_6 (N4 (.inl (.long,[]))) ?_
 intro a6 ha6
 refine Yl 3 0 (.array .long) 11 K (hw 19) (Or.inl (hw 20)) (hw 10) (oAp_0 @hw) d3_8 rfl rfl (P3 F0) <|Ya 12 K d3_11 <|Yd 0 13 K d3_12 ?_
 refine Y3 0 2 0 15 K (hw 4) d3_13 (N5 (.inl (.int,[]))) ?_
 intro a13 ha13
 refine Yl 3 1 (.array .int) 18 K (hw 21) (Or.inl (hw 22)) (hw 10) (oAp_0 @hw) d3_15 rfl rfl (P3 F1) <|Ya 19 K d3_18 <|Yd 0 20 K d3_19 ?_
 refine Y3 0 3 0 22 K (hw 18) d3_20 (N6 (.inl (.long,[]))) ?_
 intro a20 ha20
 refine Yl 3 2 (.array .long) 25 K (hw 23) (Or.inl (hw 24)) (hw 10) (oAp_0 @hw) d3_22 rfl rfl (P3 F2) <|Ya 26 K d3_25 <|Yd 0 27 K d3_26 ?_
 refine Y3 0 4 0 29 K (hw 4) d3_27 (N7 (.inl (.int,[]))) ?_
 intro a27 ha27
 refine Yl 3 3 (.array .int) 32 K (hw 25) (Or.inl (hw 26)) (hw 10) (oAp_0 @hw) d3_29 rfl rfl (P3 F3) <|Ya 33 K d3_32 <|Ye 34 K d3_33 ?_
 refine Y3 3 5 3 36 K (hw 27) d3_34 (N8 (.inl (.boolean,[.int 0,.int 0,.int 0]))) ?_
 intro a34 ha34
 refine Yl 3 4 (.array .boolean) 39 K (hw 28) (Or.inr ⟨(hw 29),rfl,rfl⟩) (hw 10) (oAp_0 @hw) d3_36 rfl rfl (P3 F4) <|Ya 40 K d3_39 <|Ye 41 K d3_40 ?_
 refine Y3 3 6 6 43 K (hw 4) d3_41 (N9 (.inl (.int,[.int 0,.int 0,.int 0]))) ?_
 intro a41 ha41
 refine Yl 3 5 (.array .int) 46 K (hw 30) (Or.inr ⟨(hw 31),rfl,rfl⟩) (hw 10) (oAp_0 @hw) d3_43 rfl rfl (P3 F5) <|Ya 47 K d3_46 <|Ye 48 K d3_47 ?_
 refine Y3 3 7 9 50 K (hw 4) d3_48 (N10 (.inl (.int,[.int 0,.int 0,.int 0]))) ?_
 intro a48 ha48
 refine Yl 3 6 (.array .int) 53 K (hw 32) (Or.inr ⟨(hw 33),rfl,rfl⟩) (hw 10) (oAp_0 @hw) d3_50 rfl rfl (P3 F6) <|Ya 54 K d3_53 <|Yc 3 6 57 K (hw 32) d3_54 ?_
 refine G8 59 K (hw 34) d3_57 ?_
 refine Gu [.ref a48,.int 2147483647] [] 0 7 9 62 K (hw 35) (hw 36) (hw 37) (hw 38) (own_fillR @hw) (lenOf pd_10 rfl) d3_59 ?_
 rintro _ rfl
 refine Ya 63 K d3_62 <|Ye 64 K d3_63 ?_
 refine Y3 3 8 12 66 K (hw 4) d3_64 (N11 (.inl (.int,[.int 0,.int 0,.int 0]))) ?_
 intro a64 ha64
 refine Yl 3 7 (.array .int) 69 K (hw 39) (Or.inr ⟨(hw 40),rfl,rfl⟩) (hw 10) (oAp_0 @hw) d3_66 rfl rfl (P3 F7) <|Ya 70 K d3_69 <|Ye 71 K d3_70 ?_
 refine H5 3 9 15 (fun z=>[(b0,D0),(b1,D1),(b2,D2),(b3,oO (.ref a6) (.ref a13) (.ref a20) (.ref a27) (.ref a34) (.ref a41) (.ref a48) (.ref a64) .null .null (.int 0) .null (.int 0) (.int 0) (.int 0) (.int 0) (.int 0) (.int 0) (.int 0) (.int 0)),(a6,.inl (.long,[])),(a13,.inl (.int,[])),(a20,.inl (.long,[])),(a27,.inl (.int,[])),(a34,.inl (.boolean,[.int 0,.int 0,.int 0])),(a41,.inl (.int,[.int 0,.int 0,.int 0])),(a48,.inl (.int,[.int 2147483647,.int 2147483647,.int 2147483647])),(a64,.inl (.int,[.int 0,.int 0,.int 0])),(z,.inl (.array .int,[.null,.null,.null]))]) 74 K (hw 41) (hw 42) d3_71 ?_
 intro a71 ha71
 refine Yl 3 8 (.array (.array .int)) 77 K (hw 43) (Or.inr ⟨(hw 44),rfl,rfl⟩) (hw 10) (oAp_0 @hw) d3_74 rfl rfl (P3 F8) <|Ya 78 K d3_77 <|Ye 79 K d3_78 ?_
 refine Y3 3 10 18 81 K (hw 4) d3_79 (N13 (.inl (.int,[.int 0,.int 0,.int 0]))) ?_
 intro a79 ha79
 refine Yl 3 9 (.array .int) 84 K (hw 45) (Or.inr ⟨(hw 46),rfl,rfl⟩) (hw 10) (oAp_0 @hw) d3_81 rfl rfl (P3 F9) ?_
 refine oPk0 ?_
 exact Ga K d3_84 ⟨rfl,_,_,_,_,_,_,_,_,_,_,rfl⟩
abbrev e1 (n : Nat) := decode method_2_code n
theorem d1_0 : e1 0=.ok (.iload_n 0,1):=by decide +kernel
theorem d1_1 : e1 1=.ok (.bipush 15,2):=by decide +kernel
theorem d1_3 : e1 3=.ok (.iand,1):=by decide +kernel
theorem d1_4 : e1 4=.ok (.istore_n 2,1):=by decide +kernel
theorem d1_5 : e1 5=.ok (.iload_n 0,1):=by decide +kernel
theorem d1_6 : e1 6=.ok (.iconst 4,1):=by decide +kernel
theorem d1_7 : e1 7=.ok (.iushr,1):=by decide +kernel
theorem d1_8 : e1 8=.ok (.bipush 15,2):=by decide +kernel
theorem d1_10 : e1 10=.ok (.iand,1):=by decide +kernel
theorem d1_11 : e1 11=.ok (.istore_n 3,1):=by decide +kernel
theorem d1_12 : e1 12=.ok (.iconst 3,1):=by decide +kernel
theorem d1_13 : e1 13=.ok (.iload_n 2,1):=by decide +kernel
theorem d1_14 : e1 14=.ok (.imul,1):=by decide +kernel
theorem d1_15 : e1 15=.ok (.iload_n 1,1):=by decide +kernel
theorem d1_16 : e1 16=.ok (.iadd,1):=by decide +kernel
theorem d1_17 : e1 17=.ok (.iconst 1,1):=by decide +kernel
theorem d1_18 : e1 18=.ok (.iadd,1):=by decide +kernel
theorem d1_19 : e1 19=.ok (.istore 4,2):=by decide +kernel
theorem d1_21 : e1 21=.ok (.iload_n 0,1):=by decide +kernel
theorem d1_22 : e1 22=.ok (.bipush 8,2):=by decide +kernel
theorem d1_24 : e1 24=.ok (.iushr,1):=by decide +kernel
theorem d1_25 : e1 25=.ok (.iconst 1,1):=by decide +kernel
theorem d1_26 : e1 26=.ok (.iand,1):=by decide +kernel
theorem d1_27 : e1 27=.ok (.ifCond .eq 23,3):=by decide +kernel
theorem d1_30 : e1 30=.ok (.iconst 2,1):=by decide +kernel
theorem d1_31 : e1 31=.ok (.newarray .int,2):=by decide +kernel
theorem d1_33 : e1 33=.ok (.dup,1):=by decide +kernel
theorem d1_34 : e1 34=.ok (.iconst 0,1):=by decide +kernel
theorem d1_35 : e1 35=.ok (.iload 4,2):=by decide +kernel
theorem d1_37 : e1 37=.ok (.iastore,1):=by decide +kernel
theorem d1_38 : e1 38=.ok (.dup,1):=by decide +kernel
theorem d1_39 : e1 39=.ok (.iconst 1,1):=by decide +kernel
theorem d1_40 : e1 40=.ok (.iload 4,2):=by decide +kernel
theorem d1_42 : e1 42=.ok (.iconst 3,1):=by decide +kernel
theorem d1_43 : e1 43=.ok (.iload_n 3,1):=by decide +kernel
theorem d1_44 : e1 44=.ok (.iconst 1,1):=by decide +kernel
theorem d1_45 : e1 45=.ok (.iadd,1):=by decide +kernel
theorem d1_46 : e1 46=.ok (.imul,1):=by decide +kernel
theorem d1_47 : e1 47=.ok (.iadd,1):=by decide +kernel
theorem d1_48 : e1 48=.ok (.iastore,1):=by decide +kernel
theorem d1_49 : e1 49=.ok (.areturn,1):=by decide +kernel
theorem d1_50 : e1 50=.ok (.iconst 1,1):=by decide +kernel
theorem d1_51 : e1 51=.ok (.newarray .int,2):=by decide +kernel
theorem d1_53 : e1 53=.ok (.dup,1):=by decide +kernel
theorem d1_54 : e1 54=.ok (.iconst 0,1):=by decide +kernel
theorem d1_55 : e1 55=.ok (.iload 4,2):=by decide +kernel
theorem d1_57 : e1 57=.ok (.iastore,1):=by decide +kernel
theorem d1_58 : e1 58=.ok (.areturn,1):=by decide +kernel
theorem own_po0 (hw : oHw a0 Z) {xx : Int32} :
  oCtr l Z h0 [] nM26 method_2_code 5 (some (.array .int)) (oR 0 1 2 0) #[.int xx,.int 0] [] (oVal fun w d=>∃ b0 : Addr,w=.ref b0∧((∃ x0 : Int32,d=[(b0,.inl (.int,[.int x0]))]∧1≤x0.toInt∧x0.toInt≤1000)∨(∃ x0 x1 : Int32,d=[(b0,.inl (.int,[.int x0,.int x1]))]∧1≤x0.toInt∧x0.toInt < x1.toInt∧x1.toInt≤1000))):=by
 refine oCo #[.val (.int xx),.val (.int 0),.unset,.unset,.unset] ?_
 intro p e s m below meth c K
 refine Ye 1 K d1_0 <|Gt 15 3 K d1_1 ?_
 obtain ⟨v3,ev3⟩:=oE (xx &&& (15 : Int32) : Int32)
 refine Gp 4 K d1_3 ev3 ?_
 have tv3:=oMaskR 15 (by decide) ev3
 refine Yz 5 K d1_4 U2 <|Ye 6 K d1_5 <|Yd 4 7 K d1_6 ?_
 obtain ⟨v7,ev7⟩:=oE (XT.ushr xx (4 : Int32) : Int32)
 refine G4 8 K d1_7 ev7 <|Gt 15 10 K d1_8 ?_
 obtain ⟨v10,ev10⟩:=oE (v7 &&& (15 : Int32) : Int32)
 refine Gp 11 K d1_10 ev10 ?_
 have tv10:=oMaskR 15 (by decide) ev10
 refine Yz 12 K d1_11 U3 <|Yd 3 13 K d1_12 <|Ye 14 K d1_13 ?_
 obtain ⟨v14,ev14⟩:=oE ((3 : Int32) * v3 : Int32)
 refine Hh 15 K d1_14 ev14 ?_
 have tv14:=oImul ev14 oOm
 try simp only [Int32.reduceToInt,Int64.reduceToInt] at tv14
 refine Ye 16 K d1_15 ?_
 obtain ⟨v16,ev16⟩:=oE (v14 + (0 : Int32) : Int32)
 refine Y0 17 K d1_16 ev16 ?_
 have tv16:=oIadd ev16 oOm
 try simp only [Int32.reduceToInt,Int64.reduceToInt] at tv16
 refine Yd 1 18 K d1_17 ?_
 obtain ⟨v18,ev18⟩:=oE (v16 + (1 : Int32) : Int32)
 refine Y0 19 K d1_18 ev18 ?_
 have tv18:=oIadd ev18 oOm
 try simp only [Int32.reduceToInt,Int64.reduceToInt] at tv18
 refine Yj 21 K d1_19 U4 <|Ye 22 K d1_21 <|Gt 8 24 K d1_22 ?_
 obtain ⟨v24,ev24⟩:=oE (XT.ushr xx (8 : Int32) : Int32)
 refine G4 25 K d1_24 ev24 <|Yd 1 26 K d1_25 ?_
 obtain ⟨v26,ev26⟩:=oE (v24 &&& (1 : Int32) : Int32)
 refine Gp 27 K d1_26 ev26 ?_
 have tv26:=oMaskR 1 (by decide) ev26
 refine Hf 50 30 K d1_27 (fun c27=>?_) (fun c27=>?_)
 ·simp only [oLt32,oEq32,Int32.reduceToInt] at c27
  refine Yd 1 51 K d1_50 ?_
  refine Y3 1 1 1 53 K (hw 4) d1_51 (N0 (.inl (.int,[.int 0]))) ?_
  intro a51 ha51
  refine Yv 54 K d1_53 <|Yd 0 55 K d1_54 <|Yb 57 K d1_55 ?_
  refine Yr 0 0 58 K d1_57 rfl (S0 T0) ?_
  exact G0 K d1_58 ⟨_,rfl,_,rfl,Or.inl ⟨_,rfl,by omega⟩⟩
 simp only [oLt32,oEq32,Int32.reduceToInt] at c27
 refine Yd 2 31 K d1_30 ?_
 refine Y3 2 1 2 33 K (hw 4) d1_31 (N0 (.inl (.int,[.int 0,.int 0]))) ?_
 intro a31 ha31
 refine Yv 34 K d1_33 <|Yd 0 35 K d1_34 <|Yb 37 K d1_35 ?_
 refine Yr 0 0 38 K d1_37 rfl (S0 T0) ?_
 refine Yv 39 K d1_38 <|Yd 1 40 K d1_39 <|Yb 42 K d1_40 <|Yd 3 43 K d1_42 <|Ye 44 K d1_43 <|Yd 1 45 K d1_44 ?_
 obtain ⟨v45,ev45⟩:=oE (v10 + (1 : Int32) : Int32)
 refine Y0 46 K d1_45 ev45 ?_
 have tv45:=oIadd ev45 oOm
 try simp only [Int32.reduceToInt,Int64.reduceToInt] at tv45
 obtain ⟨v46,ev46⟩:=oE ((3 : Int32) * v45 : Int32)
 refine Hh 47 K d1_46 ev46 ?_
 have tv46:=oImul ev46 oOm
 try simp only [Int32.reduceToInt,Int64.reduceToInt] at tv46
 obtain ⟨v47,ev47⟩:=oE (v18 + v46 : Int32)
 refine Y0 48 K d1_47 ev47 ?_
 have tv47:=oIadd ev47 oOm
 try simp only [Int32.reduceToInt,Int64.reduceToInt] at tv47
 refine Yr 0 1 49 K d1_48 rfl (S0 T1) ?_
 exact G0 K d1_49 ⟨_,rfl,_,rfl,Or.inr ⟨_,_,rfl,by omega,by omega,by omega⟩⟩
theorem own_po1 (hw : oHw a0 Z) {D0 : oDsc} {xx : Int32} :
  oCtr l Z h0 [] nM26 method_2_code 5 (some (.array .int)) (oR 0 1 2 0) #[.int xx,.int 1] [(b0,D0)] (oVal fun w d=>∃ b1 : Addr,w=.ref b1∧((∃ y0 : Int32,d=[(b0,D0),(b1,.inl (.int,[.int y0]))]∧1≤y0.toInt∧y0.toInt≤1000)∨(∃ y0 y1 : Int32,d=[(b0,D0),(b1,.inl (.int,[.int y0,.int y1]))]∧1≤y0.toInt∧y0.toInt < y1.toInt∧y1.toInt≤1000))):=by
 refine oCo #[.val (.int xx),.val (.int 1),.unset,.unset,.unset] ?_
 intro p e s m below meth c K
 refine Ye 1 K d1_0 <|Gt 15 3 K d1_1 ?_
 obtain ⟨v3,ev3⟩:=oE (xx &&& (15 : Int32) : Int32)
 refine Gp 4 K d1_3 ev3 ?_
 have tv3:=oMaskR 15 (by decide) ev3
 refine Yz 5 K d1_4 U2 <|Ye 6 K d1_5 <|Yd 4 7 K d1_6 ?_
 obtain ⟨v7,ev7⟩:=oE (XT.ushr xx (4 : Int32) : Int32)
 refine G4 8 K d1_7 ev7 <|Gt 15 10 K d1_8 ?_
 obtain ⟨v10,ev10⟩:=oE (v7 &&& (15 : Int32) : Int32)
 refine Gp 11 K d1_10 ev10 ?_
 have tv10:=oMaskR 15 (by decide) ev10
 refine Yz 12 K d1_11 U3 <|Yd 3 13 K d1_12 <|Ye 14 K d1_13 ?_
 obtain ⟨v14,ev14⟩:=oE ((3 : Int32) * v3 : Int32)
 refine Hh 15 K d1_14 ev14 ?_
 have tv14:=oImul ev14 oOm
 try simp only [Int32.reduceToInt,Int64.reduceToInt] at tv14
 refine Ye 16 K d1_15 ?_
 obtain ⟨v16,ev16⟩:=oE (v14 + (1 : Int32) : Int32)
 refine Y0 17 K d1_16 ev16 ?_
 have tv16:=oIadd ev16 oOm
 try simp only [Int32.reduceToInt,Int64.reduceToInt] at tv16
 refine Yd 1 18 K d1_17 ?_
 obtain ⟨v18,ev18⟩:=oE (v16 + (1 : Int32) : Int32)
 refine Y0 19 K d1_18 ev18 ?_
 have tv18:=oIadd ev18 oOm
 try simp only [Int32.reduceToInt,Int64.reduceToInt] at tv18
 refine Yj 21 K d1_19 U4 <|Ye 22 K d1_21 <|Gt 8 24 K d1_22 ?_
 obtain ⟨v24,ev24⟩:=oE (XT.ushr xx (8 : Int32) : Int32)
 refine G4 25 K d1_24 ev24 <|Yd 1 26 K d1_25 ?_
 obtain ⟨v26,ev26⟩:=oE (v24 &&& (1 : Int32) : Int32)
 refine Gp 27 K d1_26 ev26 ?_
 have tv26:=oMaskR 1 (by decide) ev26
 refine Hf 50 30 K d1_27 (fun c27=>?_) (fun c27=>?_)
 ·simp only [oLt32,oEq32,Int32.reduceToInt] at c27
  refine Yd 1 51 K d1_50 ?_
  refine Y3 1 1 1 53 K (hw 4) d1_51 (N1 (.inl (.int,[.int 0]))) ?_
  intro a51 ha51
  refine Yv 54 K d1_53 <|Yd 0 55 K d1_54 <|Yb 57 K d1_55 ?_
  refine Yr 1 0 58 K d1_57 rfl (S1 T0) ?_
  exact G0 K d1_58 ⟨_,rfl,_,rfl,Or.inl ⟨_,rfl,by omega⟩⟩
 simp only [oLt32,oEq32,Int32.reduceToInt] at c27
 refine Yd 2 31 K d1_30 ?_
 refine Y3 2 1 2 33 K (hw 4) d1_31 (N1 (.inl (.int,[.int 0,.int 0]))) ?_
 intro a31 ha31
 refine Yv 34 K d1_33 <|Yd 0 35 K d1_34 <|Yb 37 K d1_35 ?_
 refine Yr 1 0 38 K d1_37 rfl (S1 T0) ?_
 refine Yv 39 K d1_38 <|Yd 1 40 K d1_39 <|Yb 42 K d1_40 <|Yd 3 43 K d1_42 <|Ye 44 K d1_43 <|Yd 1 45 K d1_44 ?_
 obtain ⟨v45,ev45⟩:=oE (v10 + (1 : Int32) : Int32)
 refine Y0 46 K d1_45 ev45 ?_
 have tv45:=oIadd ev45 oOm
 try simp only [Int32.reduceToInt,Int64.reduceToInt] at tv45
 obtain ⟨v46,ev46⟩:=oE ((3 : Int32) * v45 : Int32)
 refine Hh 47 K d1_46 ev46 ?_
 have tv46:=oImul ev46 oOm
 try simp only [Int32.reduceToInt,Int64.reduceToInt] at tv46
 obtain ⟨v47,ev47⟩:=oE (v18 + v46 : Int32)
 refine Y0 48 K d1_47 ev47 ?_
 have tv47:=oIadd ev47 oOm
 try simp only [Int32.reduceToInt,Int64.reduceToInt] at tv47
 refine Yr 1 1 49 K d1_48 rfl (S1 T1) ?_
 exact G0 K d1_49 ⟨_,rfl,_,rfl,Or.inr ⟨_,_,rfl,by omega,by omega,by omega⟩⟩
theorem own_po2 (hw : oHw a0 Z) {D0 D1 : oDsc} {xx : Int32} :
  oCtr l Z h0 [] nM26 method_2_code 5 (some (.array .int)) (oR 0 1 2 0) #[.int xx,.int 2] [(b0,D0),(b1,D1)] (oVal fun w d=>∃ b2 : Addr,w=.ref b2∧((∃ u0 : Int32,d=[(b0,D0),(b1,D1),(b2,.inl (.int,[.int u0]))]∧1≤u0.toInt∧u0.toInt≤1000)∨(∃ u0 u1 : Int32,d=[(b0,D0),(b1,D1),(b2,.inl (.int,[.int u0,.int u1]))]∧1≤u0.toInt∧u0.toInt < u1.toInt∧u1.toInt≤1000))):=by
 refine oCo #[.val (.int xx),.val (.int 2),.unset,.unset,.unset] ?_
 intro p e s m below meth c K
 refine Ye 1 K d1_0 <|Gt 15 3 K d1_1 ?_
 obtain ⟨v3,ev3⟩:=oE (xx &&& (15 : Int32) : Int32)
 refine Gp 4 K d1_3 ev3 ?_
 have tv3:=oMaskR 15 (by decide) ev3
 refine Yz 5 K d1_4 U2 <|Ye 6 K d1_5 <|Yd 4 7 K d1_6 ?_
 obtain ⟨v7,ev7⟩:=oE (XT.ushr xx (4 : Int32) : Int32)
 refine G4 8 K d1_7 ev7 <|Gt 15 10 K d1_8 ?_
 obtain ⟨v10,ev10⟩:=oE (v7 &&& (15 : Int32) : Int32)
 refine Gp 11 K d1_10 ev10 ?_
 have tv10:=oMaskR 15 (by decide) ev10
 refine Yz 12 K d1_11 U3 <|Yd 3 13 K d1_12 <|Ye 14 K d1_13 ?_
 obtain ⟨v14,ev14⟩:=oE ((3 : Int32) * v3 : Int32)
 refine Hh 15 K d1_14 ev14 ?_
 have tv14:=oImul ev14 oOm
 try simp only [Int32.reduceToInt,Int64.reduceToInt] at tv14
 refine Ye 16 K d1_15 ?_
 obtain ⟨v16,ev16⟩:=oE (v14 + (2 : Int32) : Int32)
 refine Y0 17 K d1_16 ev16 ?_
 have tv16:=oIadd ev16 oOm
 try simp only [Int32.reduceToInt,Int64.reduceToInt] at tv16
 refine Yd 1 18 K d1_17 ?_
 obtain ⟨v18,ev18⟩:=oE (v16 + (1 : Int32) : Int32)
 refine Y0 19 K d1_18 ev18 ?_
 have tv18:=oIadd ev18 oOm
 try simp only [Int32.reduceToInt,Int64.reduceToInt] at tv18
 refine Yj 21 K d1_19 U4 <|Ye 22 K d1_21 <|Gt 8 24 K d1_22 ?_
 obtain ⟨v24,ev24⟩:=oE (XT.ushr xx (8 : Int32) : Int32)
 refine G4 25 K d1_24 ev24 <|Yd 1 26 K d1_25 ?_
 obtain ⟨v26,ev26⟩:=oE (v24 &&& (1 : Int32) : Int32)
 refine Gp 27 K d1_26 ev26 ?_
 have tv26:=oMaskR 1 (by decide) ev26
 refine Hf 50 30 K d1_27 (fun c27=>?_) (fun c27=>?_)
 ·simp only [oLt32,oEq32,Int32.reduceToInt] at c27
  refine Yd 1 51 K d1_50 ?_
  refine Y3 1 1 1 53 K (hw 4) d1_51 (N2 (.inl (.int,[.int 0]))) ?_
  intro a51 ha51
  refine Yv 54 K d1_53 <|Yd 0 55 K d1_54 <|Yb 57 K d1_55 ?_
  refine Yr 2 0 58 K d1_57 rfl (S2 T0) ?_
  exact G0 K d1_58 ⟨_,rfl,_,rfl,Or.inl ⟨_,rfl,by omega⟩⟩
 simp only [oLt32,oEq32,Int32.reduceToInt] at c27
 refine Yd 2 31 K d1_30 ?_
 refine Y3 2 1 2 33 K (hw 4) d1_31 (N2 (.inl (.int,[.int 0,.int 0]))) ?_
 intro a31 ha31
 refine Yv 34 K d1_33 <|Yd 0 35 K d1_34 <|Yb 37 K d1_35 ?_
 refine Yr 2 0 38 K d1_37 rfl (S2 T0) ?_
 refine Yv 39 K d1_38 <|Yd 1 40 K d1_39 <|Yb 42 K d1_40 <|Yd 3 43 K d1_42 <|Ye 44 K d1_43 <|Yd 1 45 K d1_44 ?_
 obtain ⟨v45,ev45⟩:=oE (v10 + (1 : Int32) : Int32)
 refine Y0 46 K d1_45 ev45 ?_
 have tv45:=oIadd ev45 oOm
 try simp only [Int32.reduceToInt,Int64.reduceToInt] at tv45
 obtain ⟨v46,ev46⟩:=oE ((3 : Int32) * v45 : Int32)
 refine Hh 47 K d1_46 ev46 ?_
 have tv46:=oImul ev46 oOm
 try simp only [Int32.reduceToInt,Int64.reduceToInt] at tv46
 obtain ⟨v47,ev47⟩:=oE (v18 + v46 : Int32)
 refine Y0 48 K d1_47 ev47 ?_
 have tv47:=oIadd ev47 oOm
 try simp only [Int32.reduceToInt,Int64.reduceToInt] at tv47
 refine Yr 2 1 49 K d1_48 rfl (S2 T1) ?_
 exact G0 K d1_49 ⟨_,rfl,_,rfl,Or.inr ⟨_,_,rfl,by omega,by omega,by omega⟩⟩
theorem pd_11 : parseMethodDescriptor "(II)[I" = some ⟨[.int, .int], some (.array .int)⟩ := by decide +kernel
theorem pd_12 : parseMethodDescriptor "(I)V" = some ⟨[.int], none⟩ := by decide +kernel
abbrev e8 (n : Nat) := decode prog_7_method_3_code n
theorem d8_0 : e8 0=.ok (.aload_n 0,1):=by decide +kernel
theorem d8_1 : e8 1=.ok (.getfield 32,3):=by decide +kernel
theorem d8_4 : e8 4=.ok (.iload_n 1,1):=by decide +kernel
theorem d8_5 : e8 5=.ok (.aload_n 0,1):=by decide +kernel
theorem d8_6 : e8 6=.ok (.getfield 66,3):=by decide +kernel
theorem d8_9 : e8 9=.ok (.iastore,1):=by decide +kernel
theorem d8_10 : e8 10=.ok (.aload_n 0,1):=by decide +kernel
theorem d8_11 : e8 11=.ok (.getfield 42,3):=by decide +kernel
theorem d8_14 : e8 14=.ok (.aload_n 0,1):=by decide +kernel
theorem d8_15 : e8 15=.ok (.getfield 66,3):=by decide +kernel
theorem d8_18 : e8 18=.ok (.iload_n 1,1):=by decide +kernel
theorem d8_19 : e8 19=.ok (.iastore,1):=by decide +kernel
theorem d8_20 : e8 20=.ok (.aload_n 0,1):=by decide +kernel
theorem d8_21 : e8 21=.ok (.getfield 46,3):=by decide +kernel
theorem d8_24 : e8 24=.ok (.aload_n 0,1):=by decide +kernel
theorem d8_25 : e8 25=.ok (.getfield 66,3):=by decide +kernel
theorem d8_28 : e8 28=.ok (.aload_n 2,1):=by decide +kernel
theorem d8_29 : e8 29=.ok (.aastore,1):=by decide +kernel
theorem d8_30 : e8 30=.ok (.aload_n 0,1):=by decide +kernel
theorem d8_31 : e8 31=.ok (.dup,1):=by decide +kernel
theorem d8_32 : e8 32=.ok (.getfield 66,3):=by decide +kernel
theorem d8_35 : e8 35=.ok (.iconst 1,1):=by decide +kernel
theorem d8_36 : e8 36=.ok (.iadd,1):=by decide +kernel
theorem d8_37 : e8 37=.ok (.putfield 66,3):=by decide +kernel
theorem d8_40 : e8 40=.ok (.aload_n 0,1):=by decide +kernel
theorem d8_41 : e8 41=.ok (.getfield 25,3):=by decide +kernel
theorem d8_44 : e8 44=.ok (.iload_n 1,1):=by decide +kernel
theorem d8_45 : e8 45=.ok (.baload,1):=by decide +kernel
theorem d8_46 : e8 46=.ok (.ifCond .ne 103,3):=by decide +kernel
theorem d8_49 : e8 49=.ok (.aload_n 0,1):=by decide +kernel
theorem d8_50 : e8 50=.ok (.getfield 25,3):=by decide +kernel
theorem d8_53 : e8 53=.ok (.iload_n 1,1):=by decide +kernel
theorem d8_54 : e8 54=.ok (.iconst 1,1):=by decide +kernel
theorem d8_55 : e8 55=.ok (.bastore,1):=by decide +kernel
theorem d8_56 : e8 56=.ok (.aload_n 0,1):=by decide +kernel
theorem d8_57 : e8 57=.ok (.getfield 29,3):=by decide +kernel
theorem d8_60 : e8 60=.ok (.aload_n 0,1):=by decide +kernel
theorem d8_61 : e8 61=.ok (.dup,1):=by decide +kernel
theorem d8_62 : e8 62=.ok (.getfield 56,3):=by decide +kernel
theorem d8_65 : e8 65=.ok (.dup_x1,1):=by decide +kernel
theorem d8_66 : e8 66=.ok (.iconst 1,1):=by decide +kernel
theorem d8_67 : e8 67=.ok (.iadd,1):=by decide +kernel
theorem d8_68 : e8 68=.ok (.putfield 56,3):=by decide +kernel
theorem d8_71 : e8 71=.ok (.iload_n 1,1):=by decide +kernel
theorem d8_72 : e8 72=.ok (.iastore,1):=by decide +kernel
theorem d8_73 : e8 73=.ok (.aload_n 0,1):=by decide +kernel
theorem d8_74 : e8 74=.ok (.getfield 60,3):=by decide +kernel
theorem d8_77 : e8 77=.ok (.aload_n 2,1):=by decide +kernel
theorem d8_78 : e8 78=.ok (.arraylength,1):=by decide +kernel
theorem d8_79 : e8 79=.ok (.iadd,1):=by decide +kernel
theorem d8_80 : e8 80=.ok (.istore_n 3,1):=by decide +kernel
theorem d8_81 : e8 81=.ok (.aload_n 0,1):=by decide +kernel
theorem d8_82 : e8 82=.ok (.getfield 9,3):=by decide +kernel
theorem d8_85 : e8 85=.ok (.arraylength,1):=by decide +kernel
theorem d8_86 : e8 86=.ok (.iload_n 3,1):=by decide +kernel
theorem d8_87 : e8 87=.ok (.if_icmp .ge 45,3):=by decide +kernel
theorem d8_90 : e8 90=.ok (.iload_n 3,1):=by decide +kernel
theorem d8_91 : e8 91=.ok (.iconst 2,1):=by decide +kernel
theorem d8_92 : e8 92=.ok (.aload_n 0,1):=by decide +kernel
theorem d8_93 : e8 93=.ok (.getfield 9,3):=by decide +kernel
theorem d8_96 : e8 96=.ok (.arraylength,1):=by decide +kernel
theorem d8_97 : e8 97=.ok (.imul,1):=by decide +kernel
theorem d8_98 : e8 98=.ok (.invokestatic 69,3):=by decide +kernel
theorem d8_101 : e8 101=.ok (.istore 4,2):=by decide +kernel
theorem d8_103 : e8 103=.ok (.aload_n 0,1):=by decide +kernel
theorem d8_104 : e8 104=.ok (.aload_n 0,1):=by decide +kernel
theorem d8_105 : e8 105=.ok (.getfield 9,3):=by decide +kernel
theorem d8_108 : e8 108=.ok (.iload 4,2):=by decide +kernel
theorem d8_110 : e8 110=.ok (.invokestatic 75,3):=by decide +kernel
theorem d8_113 : e8 113=.ok (.putfield 9,3):=by decide +kernel
theorem d8_116 : e8 116=.ok (.aload_n 0,1):=by decide +kernel
theorem d8_117 : e8 117=.ok (.iload 4,2):=by decide +kernel
theorem d8_119 : e8 119=.ok (.newarray .long,2):=by decide +kernel
theorem d8_121 : e8 121=.ok (.putfield 19,3):=by decide +kernel
theorem d8_124 : e8 124=.ok (.aload_n 0,1):=by decide +kernel
theorem d8_125 : e8 125=.ok (.iload 4,2):=by decide +kernel
theorem d8_127 : e8 127=.ok (.newarray .int,2):=by decide +kernel
theorem d8_129 : e8 129=.ok (.putfield 22,3):=by decide +kernel
theorem d8_132 : e8 132=.ok (.aload_n 0,1):=by decide +kernel
theorem d8_133 : e8 133=.ok (.aload_n 0,1):=by decide +kernel
theorem d8_134 : e8 134=.ok (.getfield 9,3):=by decide +kernel
theorem d8_137 : e8 137=.ok (.aload_n 0,1):=by decide +kernel
theorem d8_138 : e8 138=.ok (.getfield 60,3):=by decide +kernel
theorem d8_141 : e8 141=.ok (.aload_n 2,1):=by decide +kernel
theorem d8_142 : e8 142=.ok (.iload_n 1,1):=by decide +kernel
theorem d8_143 : e8 143=.ok (.invokestatic 79,3):=by decide +kernel
theorem d8_146 : e8 146=.ok (.putfield 60,3):=by decide +kernel
theorem d8_149 : e8 149=.ok (.aload_n 0,1):=by decide +kernel
theorem d8_150 : e8 150=.ok (.getfield 85,3):=by decide +kernel
theorem d8_153 : e8 153=.ok (.ifnull 15,3):=by decide +kernel
theorem d8_156 : e8 156=.ok (.iconst 2,1):=by decide +kernel
theorem d8_157 : e8 157=.ok (.aload_n 2,1):=by decide +kernel
theorem d8_158 : e8 158=.ok (.arraylength,1):=by decide +kernel
theorem d8_159 : e8 159=.ok (.imul,1):=by decide +kernel
theorem d8_160 : e8 160=.ok (.aload_n 0,1):=by decide +kernel
theorem d8_161 : e8 161=.ok (.getfield 85,3):=by decide +kernel
theorem d8_164 : e8 164=.ok (.arraylength,1):=by decide +kernel
theorem d8_165 : e8 165=.ok (.if_icmp .gt 13,3):=by decide +kernel
theorem d8_168 : e8 168=.ok (.aload_n 0,1):=by decide +kernel
theorem d8_169 : e8 169=.ok (.aload_n 2,1):=by decide +kernel
theorem d8_170 : e8 170=.ok (.putfield 85,3):=by decide +kernel
theorem d8_173 : e8 173=.ok (.aload_n 0,1):=by decide +kernel
theorem d8_174 : e8 174=.ok (.iconst 0,1):=by decide +kernel
theorem d8_175 : e8 175=.ok (.putfield 88,3):=by decide +kernel
theorem d8_178 : e8 178=.ok (.return_,1):=by decide +kernel
abbrev e9 (n : Nat) := decode jdk_65_method_124_code n
theorem d9_0 : e9 0=.ok (.iload_n 1,1):=by decide +kernel
theorem d9_1 : e9 1=.ok (.aload_n 0,1):=by decide +kernel
theorem d9_2 : e9 2=.ok (.arraylength,1):=by decide +kernel
theorem d9_3 : e9 3=.ok (.if_icmp .ne 11,3):=by decide +kernel
theorem d9_14 : e9 14=.ok (.iload_n 1,1):=by decide +kernel
theorem d9_15 : e9 15=.ok (.newarray .long,2):=by decide +kernel
theorem d9_17 : e9 17=.ok (.astore_n 2,1):=by decide +kernel
theorem d9_18 : e9 18=.ok (.aload_n 0,1):=by decide +kernel
theorem d9_19 : e9 19=.ok (.iconst 0,1):=by decide +kernel
theorem d9_20 : e9 20=.ok (.aload_n 2,1):=by decide +kernel
theorem d9_21 : e9 21=.ok (.iconst 0,1):=by decide +kernel
theorem d9_22 : e9 22=.ok (.aload_n 0,1):=by decide +kernel
theorem d9_23 : e9 23=.ok (.arraylength,1):=by decide +kernel
theorem d9_24 : e9 24=.ok (.iload_n 1,1):=by decide +kernel
theorem d9_25 : e9 25=.ok (.invokestatic 304,3):=by decide +kernel
theorem d9_28 : e9 28=.ok (.invokestatic 150,3):=by decide +kernel
theorem d9_31 : e9 31=.ok (.aload_n 2,1):=by decide +kernel
theorem d9_32 : e9 32=.ok (.areturn,1):=by decide +kernel
theorem own_copy_0_1 (hw : oHw a0 Z) {D0 D1 D2 D3 D4 D5 D6 D7 D8 D9 D11 D12 D13 : oDsc} :
  oCtr l Z h0 [] nM27 jdk_65_method_124_code 3 (some (.array .long)) (oR 1 1 1 48) #[.ref b10,.int 1] [(b0,D0),(b1,D1),(b2,D2),(b3,D3),(b4,D4),(b5,D5),(b6,D6),(b7,D7),(b8,D8),(b9,D9),(b10,.inl (.long,[])),(b11,D11),(b12,D12),(b13,D13)] (oVal fun w d=>∃ b14 : Addr,w=.ref b14∧d=[(b0,D0),(b1,D1),(b2,D2),(b3,D3),(b4,D4),(b5,D5),(b6,D6),(b7,D7),(b8,D8),(b9,D9),(b10,.inl (.long,[])),(b11,D11),(b12,D12),(b13,D13),(b14,.inl (.long,[.long 0]))]):=by
 refine oCo #[.val (.ref b10),.val (.int 1),.unset] ?_
 intro p e s m below meth c K
 refine Ye 1 K d9_0 <|Ya 2 K d9_1 <|Yf 10 0 3 K d9_2 ?_
 refine Gj 14 6 K d9_3 <|Ye 15 K d9_14 ?_
 refine Y3 1 1 1 17 K (hw 18) d9_15 (N14 (.inl (.long,[.long 0]))) ?_
 intro a15 ha15
 refine Gl 18 K d9_17 U2 <|Ya 19 K d9_18 <|Yd 0 20 K d9_19 <|Ya 21 K d9_20 <|Yd 0 22 K d9_21 <|Ya 23 K d9_22 <|Yf 10 0 24 K d9_23 <|Ye 25 K d9_24 ?_
 refine Yk [.int 0,.int 1] [.int 0,.ref a15,.int 0,.ref b10] 4 1 1 28 K (hw 77) (hw 78) (hw 7) (hw 79) (own_min @hw) (lenOf pd_9 rfl) d9_25 ?_
 rintro _ _ ⟨mz,rfl,hmz,rfl⟩
 obtain rfl : mz=(0 : Int32):=oEq32.mpr (hmz.trans (by decide))
 refine oW.copyJ (W:=0) (i1:=10) (i2:=14) (xs:=[]) (us:=[0]) (ds':=[(b0,D0),(b1,D1),(b2,D2),(b3,D3),(b4,D4),(b5,D5),(b6,D6),(b7,D7),(b8,D8),(b9,D9),(b10,.inl (.long,[])),(b11,D11),(b12,D12),(b13,D13),(a15,.inl (.long,[.long 0]))]) (pc':=31) K (hw 80) (hw 83) (hw 81) (hw 82) d9_28 rfl rfl rfl rfl rfl (Nat.le_of_ble_eq_true rfl) (by decide) rfl rfl (by decide) (Nat.le_of_eq rfl) (by decide) rfl ?_
 refine Ya 32 K d9_31 ?_
 exact G0 K d9_32 ⟨_,rfl,_,rfl,rfl⟩
theorem pd_13 : parseMethodDescriptor "([JI)[J" = some ⟨[(.array .long), .int], some (.array .long)⟩ := by decide +kernel
abbrev e11 (n : Nat) := decode prog_6_method_3_code n
theorem d11_0 : e11 0=.ok (.iload_n 1,1):=by decide +kernel
theorem d11_1 : e11 1=.ok (.aload_n 2,1):=by decide +kernel
theorem d11_2 : e11 2=.ok (.arraylength,1):=by decide +kernel
theorem d11_3 : e11 3=.ok (.iadd,1):=by decide +kernel
theorem d11_4 : e11 4=.ok (.iconst 1,1):=by decide +kernel
theorem d11_5 : e11 5=.ok (.isub,1):=by decide +kernel
theorem d11_6 : e11 6=.ok (.istore 4,2):=by decide +kernel
theorem d11_8 : e11 8=.ok (.iload_n 1,1):=by decide +kernel
theorem d11_9 : e11 9=.ok (.iconst 1,1):=by decide +kernel
theorem d11_10 : e11 10=.ok (.isub,1):=by decide +kernel
theorem d11_11 : e11 11=.ok (.istore 5,2):=by decide +kernel
theorem d11_13 : e11 13=.ok (.aload_n 2,1):=by decide +kernel
theorem d11_14 : e11 14=.ok (.arraylength,1):=by decide +kernel
theorem d11_15 : e11 15=.ok (.iconst 1,1):=by decide +kernel
theorem d11_16 : e11 16=.ok (.isub,1):=by decide +kernel
theorem d11_17 : e11 17=.ok (.istore 6,2):=by decide +kernel
theorem d11_19 : e11 19=.ok (.iload 6,2):=by decide +kernel
theorem d11_21 : e11 21=.ok (.ifCond .lt 60,3):=by decide +kernel
theorem d11_24 : e11 24=.ok (.aload_n 2,1):=by decide +kernel
theorem d11_25 : e11 25=.ok (.iload 6,2):=by decide +kernel
theorem d11_27 : e11 27=.ok (.iaload,1):=by decide +kernel
theorem d11_28 : e11 28=.ok (.iload_n 3,1):=by decide +kernel
theorem d11_29 : e11 29=.ok (.invokestatic 7,3):=by decide +kernel
theorem d11_32 : e11 32=.ok (.lstore 7,2):=by decide +kernel
theorem d11_34 : e11 34=.ok (.iload 5,2):=by decide +kernel
theorem d11_36 : e11 36=.ok (.ifCond .lt 30,3):=by decide +kernel
theorem d11_39 : e11 39=.ok (.aload_n 0,1):=by decide +kernel
theorem d11_40 : e11 40=.ok (.iload 5,2):=by decide +kernel
theorem d11_42 : e11 42=.ok (.laload,1):=by decide +kernel
theorem d11_43 : e11 43=.ok (.lload 7,2):=by decide +kernel
theorem d11_45 : e11 45=.ok (.lcmp,1):=by decide +kernel
theorem d11_46 : e11 46=.ok (.ifCond .le 20,3):=by decide +kernel
theorem d11_49 : e11 49=.ok (.aload_n 0,1):=by decide +kernel
theorem d11_50 : e11 50=.ok (.iload 4,2):=by decide +kernel
theorem d11_52 : e11 52=.ok (.iinc 4 (-1),3):=by decide +kernel
theorem d11_55 : e11 55=.ok (.aload_n 0,1):=by decide +kernel
theorem d11_56 : e11 56=.ok (.iload 5,2):=by decide +kernel
theorem d11_58 : e11 58=.ok (.iinc 5 (-1),3):=by decide +kernel
theorem d11_61 : e11 61=.ok (.laload,1):=by decide +kernel
theorem d11_62 : e11 62=.ok (.lastore,1):=by decide +kernel
theorem d11_63 : e11 63=.ok (.goto (-29),3):=by decide +kernel
theorem d11_66 : e11 66=.ok (.aload_n 0,1):=by decide +kernel
theorem d11_67 : e11 67=.ok (.iload 4,2):=by decide +kernel
theorem d11_69 : e11 69=.ok (.iinc 4 (-1),3):=by decide +kernel
theorem d11_72 : e11 72=.ok (.lload 7,2):=by decide +kernel
theorem d11_74 : e11 74=.ok (.lastore,1):=by decide +kernel
theorem d11_75 : e11 75=.ok (.iinc 6 (-1),3):=by decide +kernel
theorem d11_78 : e11 78=.ok (.goto (-59),3):=by decide +kernel
theorem d11_81 : e11 81=.ok (.iload_n 1,1):=by decide +kernel
theorem d11_82 : e11 82=.ok (.aload_n 2,1):=by decide +kernel
theorem d11_83 : e11 83=.ok (.arraylength,1):=by decide +kernel
theorem d11_84 : e11 84=.ok (.iadd,1):=by decide +kernel
theorem d11_85 : e11 85=.ok (.ireturn,1):=by decide +kernel
theorem own_aw_0_0_1 (hw : oHw a0 Z) {D1 D2 D3 D4 D5 D6 D7 D8 D9 D11 D12 D13 : oDsc} {t0 : Int64} {rt : List Value} {y0 : Int32} (hy0 : 1≤y0.toInt∧y0.toInt≤100000) (hch : oCh []) :
  oCtr l Z h0 [] nM28 prog_6_method_3_code 9 (some .int) (oR 1 0 0 24) #[.ref b10,.int 0,.ref b0,.int 0] [(b0,.inl (.int,[.int y0])),(b1,D1),(b2,D2),(b3,D3),(b4,D4),(b5,D5),(b6,D6),(b7,D7),(b8,D8),(b9,D9),(b10,.inl (.long,(.long t0)::rt)),(b11,D11),(b12,D12),(b13,D13)] (oVal fun w d=>∃ (z0 : Int64),w=.int 1∧d=[(b0,.inl (.int,[.int y0])),(b1,D1),(b2,D2),(b3,D3),(b4,D4),(b5,D5),(b6,D6),(b7,D7),(b8,D8),(b9,D9),(b10,.inl (.long,(.long z0)::rt)),(b11,D11),(b12,D12),(b13,D13)]∧oCh [z0]∧∀ v : Int,(v=z0.toInt) ↔ (v=y0.toInt * 4294967296 + 0)):=by
 refine oCo #[.val (.ref b10),.val (.int 0),.val (.ref b0),.val (.int 0),.unset,.unset,.unset,.unset,.unset] ?_
 intro p e s m below meth c K
 refine Ye 1 K d11_0 <|Ya 2 K d11_1 <|Yf 0 1 3 K d11_2 ?_
 refine Ym 1 4 K d11_3 <|Yd 1 5 K d11_4 ?_
 refine Y4 0 6 K d11_5 ?_
 refine Yj 8 K d11_6 U4 <|Ye 9 K d11_8 <|Yd 1 10 K d11_9 ?_
 refine Y4 (-1 : Int32) 11 K d11_10 ?_
 refine Yj 13 K d11_11 U5 <|Ya 14 K d11_13 <|Yf 0 1 15 K d11_14 <|Yd 1 16 K d11_15 ?_
 refine Y4 0 17 K d11_16 ?_
 refine Yj 19 K d11_17 U6 <|Yb 21 K d11_19 ?_
 refine Yw 81 24 K d11_21 <|Ya 25 K d11_24 <|Yb 27 K d11_25 <|Yn 0 0 28 K d11_27 <|Ye 29 K d11_28 ?_
 refine Yk [.int y0,.int 0] [] 0 0 0 32 K (hw 88) (hw 89) (hw 86) (hw 90) (own_of @hw (by omega) (by decide)) (lenOf pd_2 rfl) d11_29 ?_
 rintro _ _ ⟨c0,rfl,tc0,rfl⟩
 simp only [Int32.reduceToInt] at tc0
 refine Gf #[.val (.ref b10),.val (.int 0),.val (.ref b0),.val (.int 0),.val (.int 0),.val (.int (-1)),.val (.int 0),.val (.long c0),.second] 34 K d11_32 <|Yb 36 K d11_34 ?_
 refine Ys 66 39 K d11_36 <|Ya 67 K d11_66 <|Yb 69 K d11_67 ?_
 refine Yg (-1 : Int32) 72 K d11_69 U4 <|Yo 74 K d11_72 ?_
 refine Yp 10 0 75 K d11_74 rfl oL0 (S10 T0) ?_
 refine Yg (-1 : Int32) 78 K d11_75 U6 <|Yi 19 K d11_78 <|Yb 21 K d11_19 ?_
 refine Ys 81 24 K d11_21 <|Ye 82 K d11_81 <|Ya 83 K d11_82 <|Yf 0 1 84 K d11_83 ?_
 refine Ym 1 85 K d11_84 ?_
 exact Yq K d11_85 ⟨_,rfl,_,rfl,rfl,trivial,fun v=>by omega⟩
theorem pd_14 : parseMethodDescriptor "([JI[II)I" = some ⟨[(.array .long), .int, (.array .int), .int], some .int⟩ := by decide +kernel
theorem own_add0_0_1 (hw : oHw a0 Z) {D1 D2 D9 D11 D12 D13 : oDsc} {f_dl f_wi f_cc f_rc f_hd f_ea : Value} {x0 : Int32} (hx0 : 1≤x0.toInt∧x0.toInt≤100000) (hch : oCh []) :
  oCtr l Z h0 [] nM29 prog_7_method_3_code 5 none (oR 2 3 24 90) #[.ref b3,.int 0,.ref b0] [(b0,.inl (.int,[.int x0])),(b1,D1),(b2,D2),(b3,oP b10 b13 b11 b12 b4 b5 b6 b7 b8 b9 (.int 0) .null (.int 0) (.int 0) f_dl f_wi f_cc f_rc f_hd f_ea),(b4,.inl (.boolean,[.int 0,.int 0,.int 0])),(b5,.inl (.int,[.int 0,.int 0,.int 0])),(b6,.inl (.int,[.int 2147483647,.int 2147483647,.int 2147483647])),(b7,.inl (.int,[.int 0,.int 0,.int 0])),(b8,.inl (.array .int,[.null,.null,.null])),(b9,D9),(b10,.inl (.long,[])),(b11,D11),(b12,D12),(b13,D13)] (oVoid fun d=>∃ (b10' b11' b12' : Addr) (z0 : Int64),d=[(b0,.inl (.int,[.int x0])),(b1,D1),(b2,D2),(b3,oP b10' b13 b11' b12' b4 b5 b6 b7 b8 b9 (.int 1) (.ref b0) (.int 1) (.int 1) f_dl (.int 0) f_cc f_rc f_hd f_ea),(b4,.inl (.boolean,[.int 1,.int 0,.int 0])),(b5,.inl (.int,[.int 0,.int 0,.int 0])),(b6,.inl (.int,[.int 0,.int 2147483647,.int 2147483647])),(b7,.inl (.int,[.int 0,.int 0,.int 0])),(b8,.inl (.array .int,[.ref b0,.null,.null])),(b9,D9),(b10',.inl (.long,[.long z0])),(b11',.inl (.long,[.long 0])),(b12',.inl (.int,[.int 0])),(b13,D13)]∧oCh [z0]∧∀ v : Int,(v=z0.toInt) ↔ (v=x0.toInt * 4294967296 + 0)):=by
 refine oCo #[.val (.ref b3),.val (.int 0),.val (.ref b0),.unset,.unset] ?_
 intro p e s m below meth c K
 refine Ya 1 K d8_0 <|Yc 3 6 4 K (hw 32) d8_1 <|Ye 5 K d8_4 <|Ya 6 K d8_5 <|Yc 3 10 9 K (hw 57) d8_6 ?_
 refine Yr 6 0 10 K d8_9 rfl (S6 T0) <|Ya 11 K d8_10 <|Yc 3 7 14 K (hw 39) d8_11 <|Ya 15 K d8_14 <|Yc 3 10 18 K (hw 57) d8_15 <|Ye 19 K d8_18 ?_
 refine Yr 7 0 20 K d8_19 rfl (S7 T0) <|Ya 21 K d8_20 <|Yc 3 8 24 K (hw 43) d8_21 <|Ya 25 K d8_24 <|Yc 3 10 28 K (hw 57) d8_25 <|Ya 29 K d8_28 ?_
 refine Go 8 0 0 30 K d8_29 rfl (S8 T0) <|Ya 31 K d8_30 ?_
 refine Yv 32 K d8_31 <|Yc 3 10 35 K (hw 57) d8_32 <|Yd 1 36 K d8_35 ?_
 refine Ym 1 37 K d8_36 ?_
 refine Yl 3 10 .int 40 K (hw 57) (Or.inl (hw 58)) (hw 10) (oAp_0 @hw) d8_37 rfl rfl (P3 F10) <|Ya 41 K d8_40 <|Yc 3 4 44 K (hw 28) d8_41 <|Ye 45 K d8_44 <|Gn 4 0 46 K d8_45 ?_
 refine Gc 149 49 K d8_46 <|Ya 50 K d8_49 <|Yc 3 4 53 K (hw 28) d8_50 <|Ye 54 K d8_53 <|Yd 1 55 K d8_54 ?_
 refine Gy 4 0 (.int (1 : Int32)) 56 K d8_55 rfl (S4 T0) <|Ya 57 K d8_56 <|Yc 3 5 60 K (hw 30) d8_57 <|Ya 61 K d8_60 ?_
 refine Yv 62 K d8_61 <|Yc 3 12 65 K (hw 61) d8_62 ?_
 refine Gg 66 K d8_65 <|Yd 1 67 K d8_66 ?_
 refine Ym 1 68 K d8_67 ?_
 refine Yl 3 12 .int 71 K (hw 61) (Or.inl (hw 62)) (hw 10) (oAp_0 @hw) d8_68 rfl rfl (P3 F12) <|Ye 72 K d8_71 ?_
 refine Yr 5 0 73 K d8_72 rfl (S5 T0) <|Ya 74 K d8_73 <|Yc 3 13 77 K (hw 63) d8_74 <|Ya 78 K d8_77 <|Yf 0 1 79 K d8_78 ?_
 refine Ym 1 80 K d8_79 ?_
 refine Yz 81 K d8_80 U3 <|Ya 82 K d8_81 <|Yc 3 0 85 K (hw 19) d8_82 <|Yf 10 0 86 K d8_85 <|Ye 87 K d8_86 ?_
 refine Yy 132 90 K d8_87 <|Ye 91 K d8_90 <|Yd 2 92 K d8_91 <|Ya 93 K d8_92 <|Yc 3 0 96 K (hw 19) d8_93 <|Yf 10 0 97 K d8_96 ?_
 refine Gq 0 98 K d8_97 ?_
 refine Yk [.int 1,.int 0] [] 0 0 0 101 K (hw 73) (hw 6) (hw 7) (hw 8) (own_max @hw) (lenOf pd_9 rfl) d8_98 ?_
 rintro _ _ ⟨mz,rfl,hmz,rfl⟩
 obtain rfl : mz=(1 : Int32):=oEq32.mpr (hmz.trans (by decide))
 refine Yj 103 K d8_101 U4 <|Ya 104 K d8_103 <|Ya 105 K d8_104 <|Yc 3 0 108 K (hw 19) d8_105 <|Yb 110 K d8_108 ?_
 refine Yk [.ref b10,.int 1] [.ref b3] 1 1 1 113 K (hw 74) (hw 75) (hw 37) (hw 76) (own_copy_0_1 @hw) (lenOf pd_13 rfl) d8_110 ?_
 rintro _ _ ⟨b14,rfl,rfl⟩
 refine Yl 3 0 (.array .long) 116 K (hw 19) (Or.inl (hw 20)) (hw 10) (oAp_0 @hw) d8_113 rfl rfl (P3 F0) <|Ya 117 K d8_116 <|Yb 119 K d8_117 ?_
 refine Y3 1 2 2 121 K (hw 18) d8_119 (N15 (.inl (.long,[.long 0]))) ?_
 intro a119 ha119
 refine Yl 3 2 (.array .long) 124 K (hw 23) (Or.inl (hw 24)) (hw 10) (oAp_0 @hw) d8_121 rfl rfl (P3 F2) <|Ya 125 K d8_124 <|Yb 127 K d8_125 ?_
 refine Y3 1 3 3 129 K (hw 4) d8_127 (N16 (.inl (.int,[.int 0]))) ?_
 intro a127 ha127
 refine Yl 3 3 (.array .int) 132 K (hw 25) (Or.inl (hw 26)) (hw 10) (oAp_0 @hw) d8_129 rfl rfl (P3 F3) ?_
 refine oPk1 ?_
 refine Ya 133 K d8_132 <|Ya 134 K d8_133 <|Yc 3 0 137 K (hw 19) d8_134 <|Ya 138 K d8_137 <|Yc 3 13 141 K (hw 63) d8_138 <|Ya 142 K d8_141 <|Ye 143 K d8_142 ?_
 refine Yk [.ref b14,.int 0,.ref b0,.int 0] [.ref b3] 1 3 3 146 K (hw 84) (hw 85) (hw 86) (hw 87) (own_aw_0_0_1 @hw (by omega) hch) (lenOf pd_14 rfl) d8_143 ?_
 rintro _ _ ⟨z0,rfl,rfl,hz1,hz2⟩
 refine Yl 3 13 .int 149 K (hw 63) (Or.inl (hw 64)) (hw 10) (oAp_0 @hw) d8_146 rfl rfl (P3 F13) <|Ya 150 K d8_149 <|Yc 3 11 153 K (hw 59) d8_150 ?_
 refine Gw 168 K d8_153 <|Ya 169 K d8_168 <|Ya 170 K d8_169 ?_
 refine Yl 3 11 (.array .int) 173 K (hw 59) (Or.inl (hw 60)) (hw 10) (oAp_0 @hw) d8_170 rfl rfl (P3 F11) <|Ya 174 K d8_173 <|Yd 0 175 K d8_174 ?_
 refine Yl 3 15 .int 178 K (hw 91) (Or.inl (hw 92)) (hw 10) (oAp_0 @hw) d8_175 rfl rfl (P3 F15) ?_
 exact Ga K d8_178 ⟨rfl,_,_,_,_,rfl,hz1,hz2⟩
theorem pd_15 : parseMethodDescriptor "(I[I)V" = some ⟨[.int, (.array .int)], none⟩ := by decide +kernel
theorem own_copy_1_2 (hw : oHw a0 Z) {D0 D1 D2 D3 D4 D5 D6 D7 D8 D9 D11 D12 D13 : oDsc} {g0 : Int64} :
  oCtr l Z h0 [] nM27 jdk_65_method_124_code 3 (some (.array .long)) (oR 1 1 2 48) #[.ref b10,.int 2] [(b0,D0),(b1,D1),(b2,D2),(b3,D3),(b4,D4),(b5,D5),(b6,D6),(b7,D7),(b8,D8),(b9,D9),(b10,.inl (.long,[.long g0])),(b11,D11),(b12,D12),(b13,D13)] (oVal fun w d=>∃ b14 : Addr,w=.ref b14∧d=[(b0,D0),(b1,D1),(b2,D2),(b3,D3),(b4,D4),(b5,D5),(b6,D6),(b7,D7),(b8,D8),(b9,D9),(b10,.inl (.long,[.long g0])),(b11,D11),(b12,D12),(b13,D13),(b14,.inl (.long,[.long g0,.long 0]))]):=by
 refine oCo #[.val (.ref b10),.val (.int 2),.unset] ?_
 intro p e s m below meth c K
 refine Ye 1 K d9_0 <|Ya 2 K d9_1 <|Yf 10 1 3 K d9_2 ?_
 refine Gj 14 6 K d9_3 <|Ye 15 K d9_14 ?_
 refine Y3 2 1 2 17 K (hw 18) d9_15 (N14 (.inl (.long,[.long 0,.long 0]))) ?_
 intro a15 ha15
 refine Gl 18 K d9_17 U2 <|Ya 19 K d9_18 <|Yd 0 20 K d9_19 <|Ya 21 K d9_20 <|Yd 0 22 K d9_21 <|Ya 23 K d9_22 <|Yf 10 1 24 K d9_23 <|Ye 25 K d9_24 ?_
 refine Yk [.int 1,.int 2] [.int 0,.ref a15,.int 0,.ref b10] 4 1 2 28 K (hw 77) (hw 78) (hw 7) (hw 79) (own_min @hw) (lenOf pd_9 rfl) d9_25 ?_
 rintro _ _ ⟨mz,rfl,hmz,rfl⟩
 obtain rfl : mz=(1 : Int32):=oEq32.mpr (hmz.trans (by decide))
 refine oW.copyJ (W:=0) (i1:=10) (i2:=14) (xs:=[g0]) (us:=[0,0]) (ds':=[(b0,D0),(b1,D1),(b2,D2),(b3,D3),(b4,D4),(b5,D5),(b6,D6),(b7,D7),(b8,D8),(b9,D9),(b10,.inl (.long,[.long g0])),(b11,D11),(b12,D12),(b13,D13),(a15,.inl (.long,[.long g0,.long 0]))]) (pc':=31) K (hw 80) (hw 83) (hw 81) (hw 82) d9_28 rfl rfl rfl rfl rfl (Nat.le_of_ble_eq_true rfl) (by decide) rfl rfl (by decide) (Nat.le_of_eq rfl) (by decide) rfl ?_
 refine Ya 32 K d9_31 ?_
 exact G0 K d9_32 ⟨_,rfl,_,rfl,rfl⟩
theorem own_aw_1_1_1 (hw : oHw a0 Z) {D0 D2 D3 D4 D5 D6 D7 D8 D9 D11 D12 D13 : oDsc} {g0 t0 : Int64} {rt : List Value} {y0 : Int32} (hy0 : 1≤y0.toInt∧y0.toInt≤100000) (hch : oCh [g0]) (hne00 : g0.toInt ≠ y0.toInt * 4294967296 + 1) :
  oCtr l Z h0 [] nM28 prog_6_method_3_code 9 (some .int) (oR 1 0 0 24) #[.ref b10,.int 1,.ref b1,.int 1] [(b0,D0),(b1,.inl (.int,[.int y0])),(b2,D2),(b3,D3),(b4,D4),(b5,D5),(b6,D6),(b7,D7),(b8,D8),(b9,D9),(b10,.inl (.long,(.long g0)::(.long t0)::rt)),(b11,D11),(b12,D12),(b13,D13)] (oVal fun w d=>∃ (z0 z1 : Int64),w=.int 2∧d=[(b0,D0),(b1,.inl (.int,[.int y0])),(b2,D2),(b3,D3),(b4,D4),(b5,D5),(b6,D6),(b7,D7),(b8,D8),(b9,D9),(b10,.inl (.long,(.long z0)::(.long z1)::rt)),(b11,D11),(b12,D12),(b13,D13)]∧oCh [z0,z1]∧∀ v : Int,(v=z0.toInt∨v=z1.toInt) ↔ ((v=g0.toInt)∨(v=y0.toInt * 4294967296 + 1))):=by
 refine oCo #[.val (.ref b10),.val (.int 1),.val (.ref b1),.val (.int 1),.unset,.unset,.unset,.unset,.unset] ?_
 intro p e s m below meth c K
 refine Ye 1 K d11_0 <|Ya 2 K d11_1 <|Yf 1 1 3 K d11_2 ?_
 refine Ym 2 4 K d11_3 <|Yd 1 5 K d11_4 ?_
 refine Y4 1 6 K d11_5 ?_
 refine Yj 8 K d11_6 U4 <|Ye 9 K d11_8 <|Yd 1 10 K d11_9 ?_
 refine Y4 0 11 K d11_10 ?_
 refine Yj 13 K d11_11 U5 <|Ya 14 K d11_13 <|Yf 1 1 15 K d11_14 <|Yd 1 16 K d11_15 ?_
 refine Y4 0 17 K d11_16 ?_
 refine Yj 19 K d11_17 U6 <|Yb 21 K d11_19 ?_
 refine Yw 81 24 K d11_21 <|Ya 25 K d11_24 <|Yb 27 K d11_25 <|Yn 1 0 28 K d11_27 <|Ye 29 K d11_28 ?_
 refine Yk [.int y0,.int 1] [] 0 0 0 32 K (hw 88) (hw 89) (hw 86) (hw 90) (own_of @hw (by omega) (by decide)) (lenOf pd_2 rfl) d11_29 ?_
 rintro _ _ ⟨c0,rfl,tc0,rfl⟩
 simp only [Int32.reduceToInt] at tc0
 refine Gf #[.val (.ref b10),.val (.int 1),.val (.ref b1),.val (.int 1),.val (.int 1),.val (.int 0),.val (.int 0),.val (.long c0),.second] 34 K d11_32 <|Yb 36 K d11_34 ?_
 refine Yw 66 39 K d11_36 <|Ya 40 K d11_39 <|Yb 42 K d11_40 <|Yt 10 0 43 K d11_42 <|Yo 45 K d11_43 ?_
 obtain ⟨v45,ev45⟩:=oE (XT.cmpL g0 c0 : Int32)
 refine Y6 46 K d11_45 ev45 ?_
 refine Y2 66 49 K d11_46 (fun c46=>?_) (fun c46=>?_)
 ·rw [(oLcmp ev45).2.2] at c46
  refine Ya 67 K d11_66 <|Yb 69 K d11_67 ?_
  refine Yg 0 72 K d11_69 U4 <|Yo 74 K d11_72 ?_
  refine Yp 10 1 75 K d11_74 rfl oL1 (S10 T1) ?_
  refine Yg (-1 : Int32) 78 K d11_75 U6 <|Yi 19 K d11_78 <|Yb 21 K d11_19 ?_
  refine Ys 81 24 K d11_21 <|Ye 82 K d11_81 <|Ya 83 K d11_82 <|Yf 1 1 84 K d11_83 ?_
  refine Ym 2 85 K d11_84 ?_
  exact Yq K d11_85 ⟨_,rfl,_,_,rfl,rfl,⟨by omega,trivial⟩,fun v=>by omega⟩
 rw [(oLcmp ev45).2.2] at c46
 refine Ya 50 K d11_49 <|Yb 52 K d11_50 ?_
 refine Yg 0 55 K d11_52 U4 <|Ya 56 K d11_55 <|Yb 58 K d11_56 ?_
 refine Yg (-1 : Int32) 61 K d11_58 U5 <|Yt 10 0 62 K d11_61 ?_
 refine Yp 10 1 63 K d11_62 rfl oL1 (S10 T1) <|Yi 34 K d11_63 <|Yb 36 K d11_34 ?_
 refine Ys 66 39 K d11_36 <|Ya 67 K d11_66 <|Yb 69 K d11_67 ?_
 refine Yg (-1 : Int32) 72 K d11_69 U4 <|Yo 74 K d11_72 ?_
 refine Yp 10 0 75 K d11_74 rfl oL0 (S10 T0) ?_
 refine Yg (-1 : Int32) 78 K d11_75 U6 <|Yi 19 K d11_78 <|Yb 21 K d11_19 ?_
 refine Ys 81 24 K d11_21 <|Ye 82 K d11_81 <|Ya 83 K d11_82 <|Yf 1 1 84 K d11_83 ?_
 refine Ym 2 85 K d11_84 ?_
 exact Yq K d11_85 ⟨_,rfl,_,_,rfl,rfl,⟨by omega,trivial⟩,fun v=>by omega⟩
theorem own_add1_1_11 (hw : oHw a0 Z) {D2 D9 D11 D12 D13 : oDsc} {f_dl f_wi f_cc f_rc f_hd f_ea : Value} {g0 : Int64} {x0 y0 : Int32} (hy0 : 1≤y0.toInt∧y0.toInt≤100000) (hch : oCh [g0]) (hne00 : g0.toInt ≠ y0.toInt * 4294967296 + 1) :
  oCtr l Z h0 [] nM29 prog_7_method_3_code 5 none (oR 2 3 24 90) #[.ref b3,.int 1,.ref b1] [(b0,.inl (.int,[.int x0])),(b1,.inl (.int,[.int y0])),(b2,D2),(b3,oP b10 b13 b11 b12 b4 b5 b6 b7 b8 b9 (.int 1) (.ref b0) (.int 1) (.int 1) f_dl f_wi f_cc f_rc f_hd f_ea),(b4,.inl (.boolean,[.int 1,.int 0,.int 0])),(b5,.inl (.int,[.int 0,.int 0,.int 0])),(b6,.inl (.int,[.int 0,.int 2147483647,.int 2147483647])),(b7,.inl (.int,[.int 0,.int 0,.int 0])),(b8,.inl (.array .int,[.ref b0,.null,.null])),(b9,D9),(b10,.inl (.long,[.long g0])),(b11,D11),(b12,D12),(b13,D13)] (oVoid fun d=>∃ (b10' b11' b12' : Addr) (z0 z1 : Int64),d=[(b0,.inl (.int,[.int x0])),(b1,.inl (.int,[.int y0])),(b2,D2),(b3,oP b10' b13 b11' b12' b4 b5 b6 b7 b8 b9 (.int 2) (.ref b0) (.int 2) (.int 2) f_dl f_wi f_cc f_rc f_hd f_ea),(b4,.inl (.boolean,[.int 1,.int 1,.int 0])),(b5,.inl (.int,[.int 0,.int 1,.int 0])),(b6,.inl (.int,[.int 0,.int 1,.int 2147483647])),(b7,.inl (.int,[.int 0,.int 1,.int 0])),(b8,.inl (.array .int,[.ref b0,.ref b1,.null])),(b9,D9),(b10',.inl (.long,[.long z0,.long z1])),(b11',.inl (.long,[.long 0,.long 0])),(b12',.inl (.int,[.int 0,.int 0])),(b13,D13)]∧oCh [z0,z1]∧∀ v : Int,(v=z0.toInt∨v=z1.toInt) ↔ ((v=g0.toInt)∨(v=y0.toInt * 4294967296 + 1))):=by
 refine oCo #[.val (.ref b3),.val (.int 1),.val (.ref b1),.unset,.unset] ?_
 intro p e s m below meth c K
 refine Ya 1 K d8_0 <|Yc 3 6 4 K (hw 32) d8_1 <|Ye 5 K d8_4 <|Ya 6 K d8_5 <|Yc 3 10 9 K (hw 57) d8_6 ?_
 refine Yr 6 1 10 K d8_9 rfl (S6 T1) <|Ya 11 K d8_10 <|Yc 3 7 14 K (hw 39) d8_11 <|Ya 15 K d8_14 <|Yc 3 10 18 K (hw 57) d8_15 <|Ye 19 K d8_18 ?_
 refine Yr 7 1 20 K d8_19 rfl (S7 T1) <|Ya 21 K d8_20 <|Yc 3 8 24 K (hw 43) d8_21 <|Ya 25 K d8_24 <|Yc 3 10 28 K (hw 57) d8_25 <|Ya 29 K d8_28 ?_
 refine Go 8 1 1 30 K d8_29 rfl (S8 T1) <|Ya 31 K d8_30 ?_
 refine Yv 32 K d8_31 <|Yc 3 10 35 K (hw 57) d8_32 <|Yd 1 36 K d8_35 ?_
 refine Ym 2 37 K d8_36 ?_
 refine Yl 3 10 .int 40 K (hw 57) (Or.inl (hw 58)) (hw 10) (oAp_0 @hw) d8_37 rfl rfl (P3 F10) <|Ya 41 K d8_40 <|Yc 3 4 44 K (hw 28) d8_41 <|Ye 45 K d8_44 <|Gn 4 1 46 K d8_45 ?_
 refine Gc 149 49 K d8_46 <|Ya 50 K d8_49 <|Yc 3 4 53 K (hw 28) d8_50 <|Ye 54 K d8_53 <|Yd 1 55 K d8_54 ?_
 refine Gy 4 1 (.int (1 : Int32)) 56 K d8_55 rfl (S4 T1) <|Ya 57 K d8_56 <|Yc 3 5 60 K (hw 30) d8_57 <|Ya 61 K d8_60 ?_
 refine Yv 62 K d8_61 <|Yc 3 12 65 K (hw 61) d8_62 ?_
 refine Gg 66 K d8_65 <|Yd 1 67 K d8_66 ?_
 refine Ym 2 68 K d8_67 ?_
 refine Yl 3 12 .int 71 K (hw 61) (Or.inl (hw 62)) (hw 10) (oAp_0 @hw) d8_68 rfl rfl (P3 F12) <|Ye 72 K d8_71 ?_
 refine Yr 5 1 73 K d8_72 rfl (S5 T1) <|Ya 74 K d8_73 <|Yc 3 13 77 K (hw 63) d8_74 <|Ya 78 K d8_77 <|Yf 1 1 79 K d8_78 ?_
 refine Ym 2 80 K d8_79 ?_
 refine Yz 81 K d8_80 U3 <|Ya 82 K d8_81 <|Yc 3 0 85 K (hw 19) d8_82 <|Yf 10 1 86 K d8_85 <|Ye 87 K d8_86 ?_
 refine Yy 132 90 K d8_87 <|Ye 91 K d8_90 <|Yd 2 92 K d8_91 <|Ya 93 K d8_92 <|Yc 3 0 96 K (hw 19) d8_93 <|Yf 10 1 97 K d8_96 ?_
 refine Gq 2 98 K d8_97 ?_
 refine Yk [.int 2,.int 2] [] 0 0 0 101 K (hw 73) (hw 6) (hw 7) (hw 8) (own_max @hw) (lenOf pd_9 rfl) d8_98 ?_
 rintro _ _ ⟨mz,rfl,hmz,rfl⟩
 obtain rfl : mz=(2 : Int32):=oEq32.mpr (hmz.trans (by decide))
 refine Yj 103 K d8_101 U4 <|Ya 104 K d8_103 <|Ya 105 K d8_104 <|Yc 3 0 108 K (hw 19) d8_105 <|Yb 110 K d8_108 ?_
 refine Yk [.ref b10,.int 2] [.ref b3] 1 1 2 113 K (hw 74) (hw 75) (hw 37) (hw 76) (own_copy_1_2 @hw) (lenOf pd_13 rfl) d8_110 ?_
 rintro _ _ ⟨b14,rfl,rfl⟩
 refine Yl 3 0 (.array .long) 116 K (hw 19) (Or.inl (hw 20)) (hw 10) (oAp_0 @hw) d8_113 rfl rfl (P3 F0) <|Ya 117 K d8_116 <|Yb 119 K d8_117 ?_
 refine Y3 2 2 4 121 K (hw 18) d8_119 (N15 (.inl (.long,[.long 0,.long 0]))) ?_
 intro a119 ha119
 refine Yl 3 2 (.array .long) 124 K (hw 23) (Or.inl (hw 24)) (hw 10) (oAp_0 @hw) d8_121 rfl rfl (P3 F2) <|Ya 125 K d8_124 <|Yb 127 K d8_125 ?_
 refine Y3 2 3 6 129 K (hw 4) d8_127 (N16 (.inl (.int,[.int 0,.int 0]))) ?_
 intro a127 ha127
 refine Yl 3 3 (.array .int) 132 K (hw 25) (Or.inl (hw 26)) (hw 10) (oAp_0 @hw) d8_129 rfl rfl (P3 F3) ?_
 refine oPk1 ?_
 refine Ya 133 K d8_132 <|Ya 134 K d8_133 <|Yc 3 0 137 K (hw 19) d8_134 <|Ya 138 K d8_137 <|Yc 3 13 141 K (hw 63) d8_138 <|Ya 142 K d8_141 <|Ye 143 K d8_142 ?_
 refine Yk [.ref b14,.int 1,.ref b1,.int 1] [.ref b3] 1 3 6 146 K (hw 84) (hw 85) (hw 86) (hw 87) (own_aw_1_1_1 @hw (by omega) hch hne00) (lenOf pd_14 rfl) d8_143 ?_
 rintro _ _ ⟨z0,z1,rfl,rfl,hz1,hz2⟩
 refine Yl 3 13 .int 149 K (hw 63) (Or.inl (hw 64)) (hw 10) (oAp_0 @hw) d8_146 rfl rfl (P3 F13) <|Ya 150 K d8_149 <|Yc 3 11 153 K (hw 59) d8_150 ?_
 refine Hl 156 K d8_153 <|Yd 2 157 K d8_156 <|Ya 158 K d8_157 <|Yf 1 1 159 K d8_158 ?_
 refine Gq 2 160 K d8_159 <|Ya 161 K d8_160 <|Yc 3 11 164 K (hw 59) d8_161 <|Yf 0 1 165 K d8_164 ?_
 refine Hb 178 168 K d8_165 ?_
 exact Ga K d8_178 ⟨rfl,_,_,_,_,_,rfl,hz1,hz2⟩
theorem own_add2_0_1 (hw : oHw a0 Z) {D1 D2 D5 D9 D10 D11 D12 D13 : oDsc} {f_mc f_cn f_dl f_wi f_cc f_rc f_hd f_ea : Value} {x0 : Int32} :
  oCtr l Z h0 [] nM29 prog_7_method_3_code 5 none (oR 2 3 24 90) #[.ref b3,.int 0,.ref b0] [(b0,.inl (.int,[.int x0])),(b1,D1),(b2,D2),(b3,oP b10 b13 b11 b12 b4 b5 b6 b7 b8 b9 (.int 0) .null f_mc f_cn f_dl f_wi f_cc f_rc f_hd f_ea),(b4,.inl (.boolean,[.int 1,.int 1,.int 0])),(b5,D5),(b6,.inl (.int,[.int 2147483647,.int 2147483647,.int 2147483647])),(b7,.inl (.int,[.int 0,.int 1,.int 0])),(b8,.inl (.array .int,[.null,.null,.null])),(b9,D9),(b10,D10),(b11,D11),(b12,D12),(b13,D13)] (oVoid fun d=>d=[(b0,.inl (.int,[.int x0])),(b1,D1),(b2,D2),(b3,oP b10 b13 b11 b12 b4 b5 b6 b7 b8 b9 (.int 1) (.ref b0) f_mc f_cn f_dl (.int 0) f_cc f_rc f_hd f_ea),(b4,.inl (.boolean,[.int 1,.int 1,.int 0])),(b5,D5),(b6,.inl (.int,[.int 0,.int 2147483647,.int 2147483647])),(b7,.inl (.int,[.int 0,.int 1,.int 0])),(b8,.inl (.array .int,[.ref b0,.null,.null])),(b9,D9),(b10,D10),(b11,D11),(b12,D12),(b13,D13)]):=by
 refine oCo #[.val (.ref b3),.val (.int 0),.val (.ref b0),.unset,.unset] ?_
 intro p e s m below meth c K
 refine Ya 1 K d8_0 <|Yc 3 6 4 K (hw 32) d8_1 <|Ye 5 K d8_4 <|Ya 6 K d8_5 <|Yc 3 10 9 K (hw 57) d8_6 ?_
 refine Yr 6 0 10 K d8_9 rfl (S6 T0) <|Ya 11 K d8_10 <|Yc 3 7 14 K (hw 39) d8_11 <|Ya 15 K d8_14 <|Yc 3 10 18 K (hw 57) d8_15 <|Ye 19 K d8_18 ?_
 refine Yr 7 0 20 K d8_19 rfl (S7 T0) <|Ya 21 K d8_20 <|Yc 3 8 24 K (hw 43) d8_21 <|Ya 25 K d8_24 <|Yc 3 10 28 K (hw 57) d8_25 <|Ya 29 K d8_28 ?_
 refine Go 8 0 0 30 K d8_29 rfl (S8 T0) <|Ya 31 K d8_30 ?_
 refine Yv 32 K d8_31 <|Yc 3 10 35 K (hw 57) d8_32 <|Yd 1 36 K d8_35 ?_
 refine Ym 1 37 K d8_36 ?_
 refine Yl 3 10 .int 40 K (hw 57) (Or.inl (hw 58)) (hw 10) (oAp_0 @hw) d8_37 rfl rfl (P3 F10) <|Ya 41 K d8_40 <|Yc 3 4 44 K (hw 28) d8_41 <|Ye 45 K d8_44 <|Gn 4 0 46 K d8_45 ?_
 refine Hi 149 49 K d8_46 <|Ya 150 K d8_149 <|Yc 3 11 153 K (hw 59) d8_150 ?_
 refine Gw 168 K d8_153 <|Ya 169 K d8_168 <|Ya 170 K d8_169 ?_
 refine Yl 3 11 (.array .int) 173 K (hw 59) (Or.inl (hw 60)) (hw 10) (oAp_0 @hw) d8_170 rfl rfl (P3 F11) <|Ya 174 K d8_173 <|Yd 0 175 K d8_174 ?_
 refine Yl 3 15 .int 178 K (hw 91) (Or.inl (hw 92)) (hw 10) (oAp_0 @hw) d8_175 rfl rfl (P3 F15) ?_
 exact Ga K d8_178 ⟨rfl,rfl⟩
abbrev e14 (n : Nat) := decode prog_7_method_7_code n
theorem d14_0 : e14 0=.ok (.aload_n 0,1):=by decide +kernel
theorem d14_1 : e14 1=.ok (.getfield 88,3):=by decide +kernel
theorem d14_4 : e14 4=.ok (.ifCond .ne 41,3):=by decide +kernel
theorem d14_7 : e14 7=.ok (.aload_n 0,1):=by decide +kernel
theorem d14_8 : e14 8=.ok (.getfield 15,3):=by decide +kernel
theorem d14_11 : e14 11=.ok (.arraylength,1):=by decide +kernel
theorem d14_12 : e14 12=.ok (.aload_n 0,1):=by decide +kernel
theorem d14_13 : e14 13=.ok (.getfield 85,3):=by decide +kernel
theorem d14_16 : e14 16=.ok (.arraylength,1):=by decide +kernel
theorem d14_17 : e14 17=.ok (.if_icmp .ge 14,3):=by decide +kernel
theorem d14_20 : e14 20=.ok (.aload_n 0,1):=by decide +kernel
theorem d14_21 : e14 21=.ok (.aload_n 0,1):=by decide +kernel
theorem d14_22 : e14 22=.ok (.getfield 85,3):=by decide +kernel
theorem d14_25 : e14 25=.ok (.arraylength,1):=by decide +kernel
theorem d14_26 : e14 26=.ok (.newarray .int,2):=by decide +kernel
theorem d14_28 : e14 28=.ok (.putfield 15,3):=by decide +kernel
theorem d14_31 : e14 31=.ok (.aload_n 0,1):=by decide +kernel
theorem d14_32 : e14 32=.ok (.getfield 15,3):=by decide +kernel
theorem d14_35 : e14 35=.ok (.iconst 0,1):=by decide +kernel
theorem d14_36 : e14 36=.ok (.aload_n 0,1):=by decide +kernel
theorem d14_37 : e14 37=.ok (.getfield 85,3):=by decide +kernel
theorem d14_40 : e14 40=.ok (.arraylength,1):=by decide +kernel
theorem d14_41 : e14 41=.ok (.iconst 0,1):=by decide +kernel
theorem d14_42 : e14 42=.ok (.invokestatic 117,3):=by decide +kernel
theorem d14_45 : e14 45=.ok (.aload_n 0,1):=by decide +kernel
theorem d14_46 : e14 46=.ok (.getfield 88,3):=by decide +kernel
theorem d14_49 : e14 49=.ok (.aload_n 0,1):=by decide +kernel
theorem d14_50 : e14 50=.ok (.getfield 66,3):=by decide +kernel
theorem d14_53 : e14 53=.ok (.if_icmp .ge 68,3):=by decide +kernel
theorem d14_56 : e14 56=.ok (.aload_n 0,1):=by decide +kernel
theorem d14_57 : e14 57=.ok (.getfield 46,3):=by decide +kernel
theorem d14_60 : e14 60=.ok (.aload_n 0,1):=by decide +kernel
theorem d14_61 : e14 61=.ok (.getfield 88,3):=by decide +kernel
theorem d14_64 : e14 64=.ok (.aaload,1):=by decide +kernel
theorem d14_65 : e14 65=.ok (.astore_n 1,1):=by decide +kernel
theorem d14_66 : e14 66=.ok (.iconst 0,1):=by decide +kernel
theorem d14_67 : e14 67=.ok (.istore_n 2,1):=by decide +kernel
theorem d14_68 : e14 68=.ok (.iload_n 2,1):=by decide +kernel
theorem d14_69 : e14 69=.ok (.aload_n 0,1):=by decide +kernel
theorem d14_70 : e14 70=.ok (.getfield 85,3):=by decide +kernel
theorem d14_73 : e14 73=.ok (.arraylength,1):=by decide +kernel
theorem d14_74 : e14 74=.ok (.if_icmp .ge 34,3):=by decide +kernel
theorem d14_77 : e14 77=.ok (.aload_n 0,1):=by decide +kernel
theorem d14_78 : e14 78=.ok (.getfield 15,3):=by decide +kernel
theorem d14_81 : e14 81=.ok (.iload_n 2,1):=by decide +kernel
theorem d14_82 : e14 82=.ok (.aload_n 0,1):=by decide +kernel
theorem d14_83 : e14 83=.ok (.getfield 15,3):=by decide +kernel
theorem d14_86 : e14 86=.ok (.iload_n 2,1):=by decide +kernel
theorem d14_87 : e14 87=.ok (.iaload,1):=by decide +kernel
theorem d14_88 : e14 88=.ok (.aload_n 1,1):=by decide +kernel
theorem d14_89 : e14 89=.ok (.aload_n 0,1):=by decide +kernel
theorem d14_90 : e14 90=.ok (.getfield 85,3):=by decide +kernel
theorem d14_93 : e14 93=.ok (.iload_n 2,1):=by decide +kernel
theorem d14_94 : e14 94=.ok (.iaload,1):=by decide +kernel
theorem d14_95 : e14 95=.ok (.invokestatic 120,3):=by decide +kernel
theorem d14_98 : e14 98=.ok (.invokestatic 69,3):=by decide +kernel
theorem d14_101 : e14 101=.ok (.iastore,1):=by decide +kernel
theorem d14_102 : e14 102=.ok (.iinc 2 1,3):=by decide +kernel
theorem d14_105 : e14 105=.ok (.goto (-37),3):=by decide +kernel
theorem d14_108 : e14 108=.ok (.aload_n 0,1):=by decide +kernel
theorem d14_109 : e14 109=.ok (.dup,1):=by decide +kernel
theorem d14_110 : e14 110=.ok (.getfield 88,3):=by decide +kernel
theorem d14_113 : e14 113=.ok (.iconst 1,1):=by decide +kernel
theorem d14_114 : e14 114=.ok (.iadd,1):=by decide +kernel
theorem d14_115 : e14 115=.ok (.putfield 88,3):=by decide +kernel
theorem d14_118 : e14 118=.ok (.goto (-73),3):=by decide +kernel
theorem d14_121 : e14 121=.ok (.return_,1):=by decide +kernel
abbrev e15 (n : Nat) := decode jdk_65_method_104_code n
theorem d15_0 : e15 0=.ok (.aload_n 0,1):=by decide +kernel
theorem d15_1 : e15 1=.ok (.arraylength,1):=by decide +kernel
theorem d15_2 : e15 2=.ok (.iload_n 1,1):=by decide +kernel
theorem d15_3 : e15 3=.ok (.iload_n 2,1):=by decide +kernel
theorem d15_4 : e15 4=.ok (.invokestatic 13,3):=by decide +kernel
theorem d15_7 : e15 7=.ok (.iload_n 1,1):=by decide +kernel
theorem d15_8 : e15 8=.ok (.istore 4,2):=by decide +kernel
theorem d15_10 : e15 10=.ok (.iload 4,2):=by decide +kernel
theorem d15_12 : e15 12=.ok (.iload_n 2,1):=by decide +kernel
theorem d15_13 : e15 13=.ok (.if_icmp .ge 14,3):=by decide +kernel
theorem d15_16 : e15 16=.ok (.aload_n 0,1):=by decide +kernel
theorem d15_17 : e15 17=.ok (.iload 4,2):=by decide +kernel
theorem d15_19 : e15 19=.ok (.iload_n 3,1):=by decide +kernel
theorem d15_20 : e15 20=.ok (.iastore,1):=by decide +kernel
theorem d15_21 : e15 21=.ok (.iinc 4 1,3):=by decide +kernel
theorem d15_24 : e15 24=.ok (.goto (-14),3):=by decide +kernel
theorem d15_27 : e15 27=.ok (.return_,1):=by decide +kernel
theorem own_fillF_1_1 (hw : oHw a0 Z) {D0 D1 D2 D3 D4 D5 D6 D7 D8 D9 D10 D11 D12 : oDsc} {e0 : Int32} :
  oCtr l Z h0 [] nM30 jdk_65_method_104_code 5 none (oR 1 0 0 24) #[.ref b13,.int 0,.int 1,.int 0] [(b0,D0),(b1,D1),(b2,D2),(b3,D3),(b4,D4),(b5,D5),(b6,D6),(b7,D7),(b8,D8),(b9,D9),(b10,D10),(b11,D11),(b12,D12),(b13,.inl (.int,[.int e0]))] (oVoid fun d=>d=[(b0,D0),(b1,D1),(b2,D2),(b3,D3),(b4,D4),(b5,D5),(b6,D6),(b7,D7),(b8,D8),(b9,D9),(b10,D10),(b11,D11),(b12,D12),(b13,.inl (.int,[.int 0]))]):=by
 refine oCo #[.val (.ref b13),.val (.int 0),.val (.int 1),.val (.int 0),.unset] ?_
 intro p e s m below meth c K
 refine Ya 1 K d15_0 <|Yf 13 1 2 K d15_1 <|Ye 3 K d15_2 <|Ye 4 K d15_3 ?_
 refine Gu [.int 1,.int 0,.int 1] [] 0 0 0 7 K (hw 105) (hw 106) (hw 37) (hw 107) (own_rc @hw (by decide) (by decide) (by decide)) (lenOf pd_0 rfl) d15_4 ?_
 rintro _ rfl
 refine Ye 8 K d15_7 ?_
 refine Yj 10 K d15_8 U4 <|Yb 12 K d15_10 <|Ye 13 K d15_12 ?_
 refine Yy 27 16 K d15_13 <|Ya 17 K d15_16 <|Yb 19 K d15_17 <|Ye 20 K d15_19 ?_
 refine Yr 13 0 21 K d15_20 rfl (S13 T0) ?_
 refine Yg 1 24 K d15_21 U4 <|Yi 10 K d15_24 <|Yb 12 K d15_10 <|Ye 13 K d15_12 ?_
 refine Y8 27 16 K d15_13 ?_
 exact Ga K d15_27 ⟨rfl,rfl⟩
theorem pd_16 : parseMethodDescriptor "([IIII)V" = some ⟨[(.array .int), .int, .int, .int], none⟩ := by decide +kernel
theorem own_widen1_1_0 (hw : oHw a0 Z) {D1 D2 D4 D5 D6 D7 D9 D10 D11 D12 : oDsc} {f_mc f_cn f_dl f_cc f_rc f_hd f_ea : Value} {q1 q2 : Value} {y0 : Int32} (hy0 : 1≤y0.toInt∧y0.toInt≤100000) :
  oCtr l Z h0 [] nM31 prog_7_method_7_code 3 none (oR 3 1 2 60) #[.ref b3] [(b0,.inl (.int,[.int y0])),(b1,D1),(b2,D2),(b3,oP b10 b13 b11 b12 b4 b5 b6 b7 b8 b9 (.int 1) (.ref b0) f_mc f_cn f_dl (.int 0) f_cc f_rc f_hd f_ea),(b4,D4),(b5,D5),(b6,D6),(b7,D7),(b8,.inl (.array .int,[.ref b0,q1,q2])),(b9,D9),(b10,D10),(b11,D11),(b12,D12),(b13,.inl (.int,[]))] (oVoid fun d=>∃ b13' : Addr,d=[(b0,.inl (.int,[.int y0])),(b1,D1),(b2,D2),(b3,oP b10 b13' b11 b12 b4 b5 b6 b7 b8 b9 (.int 1) (.ref b0) f_mc f_cn f_dl (.int 1) f_cc f_rc f_hd f_ea),(b4,D4),(b5,D5),(b6,D6),(b7,D7),(b8,.inl (.array .int,[.ref b0,q1,q2])),(b9,D9),(b10,D10),(b11,D11),(b12,D12),(b13',.inl (.int,[.int 0]))]):=by
 refine oCo #[.val (.ref b3),.unset,.unset] ?_
 intro p e s m below meth c K
 refine Ya 1 K d14_0 <|Yc 3 15 4 K (hw 91) d14_1 ?_
 refine Gc 45 7 K d14_4 <|Ya 8 K d14_7 <|Yc 3 1 11 K (hw 21) d14_8 <|Yf 13 0 12 K d14_11 <|Ya 13 K d14_12 <|Yc 3 11 16 K (hw 59) d14_13 <|Yf 0 1 17 K d14_16 ?_
 refine Yy 31 20 K d14_17 <|Ya 21 K d14_20 <|Ya 22 K d14_21 <|Yc 3 11 25 K (hw 59) d14_22 <|Yf 0 1 26 K d14_25 ?_
 refine Y3 1 1 1 28 K (hw 4) d14_26 (N14 (.inl (.int,[.int 0]))) ?_
 intro a26 ha26
 refine Yl 3 1 (.array .int) 31 K (hw 21) (Or.inl (hw 22)) (hw 10) (oAp_0 @hw) d14_28 rfl rfl (P3 F1) ?_
 refine oPk2 ?_
 refine Ya 32 K d14_31 <|Yc 3 1 35 K (hw 21) d14_32 <|Yd 0 36 K d14_35 <|Ya 37 K d14_36 <|Yc 3 11 40 K (hw 59) d14_37 <|Yf 0 1 41 K d14_40 <|Yd 0 42 K d14_41 ?_
 refine Gu [.ref a26,.int 0,.int 1,.int 0] [] 0 1 1 45 K (hw 102) (hw 103) (hw 37) (hw 104) (own_fillF_1_1 @hw) (lenOf pd_16 rfl) d14_42 ?_
 rintro _ rfl
 refine Ya 46 K d14_45 <|Yc 3 15 49 K (hw 91) d14_46 <|Ya 50 K d14_49 <|Yc 3 10 53 K (hw 57) d14_50 ?_
 refine Yy 121 56 K d14_53 <|Ya 57 K d14_56 <|Yc 3 8 60 K (hw 43) d14_57 <|Ya 61 K d14_60 <|Yc 3 15 64 K (hw 91) d14_61 <|Gz 8 0 65 K d14_64 ?_
 refine Gl 66 K d14_65 U1 <|Yd 0 67 K d14_66 ?_
 refine Yz 68 K d14_67 U2 <|Ye 69 K d14_68 <|Ya 70 K d14_69 <|Yc 3 11 73 K (hw 59) d14_70 <|Yf 0 1 74 K d14_73 ?_
 refine Yy 108 77 K d14_74 <|Ya 78 K d14_77 <|Yc 3 1 81 K (hw 21) d14_78 <|Ye 82 K d14_81 <|Ya 83 K d14_82 <|Yc 3 1 86 K (hw 21) d14_83 <|Ye 87 K d14_86 <|Yn 13 0 88 K d14_87 <|Ya 89 K d14_88 <|Ya 90 K d14_89 <|Yc 3 11 93 K (hw 59) d14_90 <|Ye 94 K d14_93 ?_
 refine Yn 0 0 95 K d14_94 ?_
 refine Yk [.ref b0,.int y0] [.int 0,.int 0,.ref a26] 3 1 1 98 K (hw 108) (hw 109) (hw 11) (hw 110) (own_dist_1 @hw (ix:=0) rfl (by omega) (by omega)) (lenOf pd_8 rfl) d14_95 ?_
 rintro _ _ ⟨dz95,rfl,hdz95,rfl⟩
 obtain rfl : dz95=(0 : Int32):=oEq32.mpr ((hdz95 (by omega)).trans (by decide))
 refine Yk [.int 0,.int 0] [.int 0,.ref a26] 2 1 1 101 K (hw 73) (hw 6) (hw 7) (hw 8) (own_max @hw) (lenOf pd_9 rfl) d14_98 ?_
 rintro _ _ ⟨mz98,rfl,hmz98,rfl⟩
 obtain rfl : mz98=(0 : Int32):=oEq32.mpr (hmz98.trans (by decide))
 refine Yr 13 0 102 K d14_101 rfl (S13 T0) ?_
 refine Yg 1 105 K d14_102 U2 <|Yi 68 K d14_105 <|Ye 69 K d14_68 <|Ya 70 K d14_69 <|Yc 3 11 73 K (hw 59) d14_70 <|Yf 0 1 74 K d14_73 ?_
 refine Y8 108 77 K d14_74 <|Ya 109 K d14_108 ?_
 refine Yv 110 K d14_109 <|Yc 3 15 113 K (hw 91) d14_110 <|Yd 1 114 K d14_113 ?_
 refine Ym 1 115 K d14_114 ?_
 refine Yl 3 15 .int 118 K (hw 91) (Or.inl (hw 92)) (hw 10) (oAp_0 @hw) d14_115 rfl rfl (P3 F15) <|Yi 45 K d14_118 <|Ya 46 K d14_45 <|Yc 3 15 49 K (hw 91) d14_46 <|Ya 50 K d14_49 <|Yc 3 10 53 K (hw 57) d14_50 ?_
 refine Y8 121 56 K d14_53 ?_
 exact Ga K d14_121 ⟨rfl,_,rfl⟩
abbrev e13 (n : Nat) := decode prog_7_method_5_code n
theorem d13_0 : e13 0=.ok (.aload_n 0,1):=by decide +kernel
theorem d13_1 : e13 1=.ok (.invokevirtual 91,3):=by decide +kernel
theorem d13_4 : e13 4=.ok (.dload_n 1,1):=by decide +kernel
theorem d13_5 : e13 5=.ok (.invokestatic 94,3):=by decide +kernel
theorem d13_8 : e13 8=.ok (.aload_n 0,1):=by decide +kernel
theorem d13_9 : e13 9=.ok (.getfield 63,3):=by decide +kernel
theorem d13_12 : e13 12=.ok (.i2d,1):=by decide +kernel
theorem d13_13 : e13 13=.ok (.invokestatic 98,3):=by decide +kernel
theorem d13_16 : e13 16=.ok (.d2i,1):=by decide +kernel
theorem d13_17 : e13 17=.ok (.iconst 1,1):=by decide +kernel
theorem d13_18 : e13 18=.ok (.isub,1):=by decide +kernel
theorem d13_19 : e13 19=.ok (.istore_n 3,1):=by decide +kernel
theorem d13_20 : e13 20=.ok (.aload_n 0,1):=by decide +kernel
theorem d13_21 : e13 21=.ok (.iconst 0,1):=by decide +kernel
theorem d13_22 : e13 22=.ok (.putfield 102,3):=by decide +kernel
theorem d13_25 : e13 25=.ok (.iconst 0,1):=by decide +kernel
theorem d13_26 : e13 26=.ok (.istore 4,2):=by decide +kernel
theorem d13_28 : e13 28=.ok (.iconst 0,1):=by decide +kernel
theorem d13_29 : e13 29=.ok (.istore 5,2):=by decide +kernel
theorem d13_31 : e13 31=.ok (.iconst 0,1):=by decide +kernel
theorem d13_32 : e13 32=.ok (.istore 6,2):=by decide +kernel
theorem d13_34 : e13 34=.ok (.iload 6,2):=by decide +kernel
theorem d13_36 : e13 36=.ok (.aload_n 0,1):=by decide +kernel
theorem d13_37 : e13 37=.ok (.getfield 85,3):=by decide +kernel
theorem d13_40 : e13 40=.ok (.arraylength,1):=by decide +kernel
theorem d13_41 : e13 41=.ok (.if_icmp .ge 98,3):=by decide +kernel
theorem d13_44 : e13 44=.ok (.aload_n 0,1):=by decide +kernel
theorem d13_45 : e13 45=.ok (.getfield 85,3):=by decide +kernel
theorem d13_48 : e13 48=.ok (.iload 6,2):=by decide +kernel
theorem d13_50 : e13 50=.ok (.iaload,1):=by decide +kernel
theorem d13_51 : e13 51=.ok (.istore 7,2):=by decide +kernel
theorem d13_53 : e13 53=.ok (.aload_n 0,1):=by decide +kernel
theorem d13_54 : e13 54=.ok (.getfield 15,3):=by decide +kernel
theorem d13_57 : e13 57=.ok (.iload 6,2):=by decide +kernel
theorem d13_59 : e13 59=.ok (.iaload,1):=by decide +kernel
theorem d13_60 : e13 60=.ok (.iconst 1,1):=by decide +kernel
theorem d13_61 : e13 61=.ok (.iadd,1):=by decide +kernel
theorem d13_62 : e13 62=.ok (.i2d,1):=by decide +kernel
theorem d13_63 : e13 63=.ok (.dload_n 1,1):=by decide +kernel
theorem d13_64 : e13 64=.ok (.dcmp .l,1):=by decide +kernel
theorem d13_65 : e13 65=.ok (.ifCond .gt 68,3):=by decide +kernel
theorem d13_68 : e13 68=.ok (.iload 7,2):=by decide +kernel
theorem d13_70 : e13 70=.ok (.iload 5,2):=by decide +kernel
theorem d13_72 : e13 72=.ok (.if_icmp .gt 6,3):=by decide +kernel
theorem d13_75 : e13 75=.ok (.goto 58,3):=by decide +kernel
theorem d13_78 : e13 78=.ok (.iload 7,2):=by decide +kernel
theorem d13_80 : e13 80=.ok (.i2l,1):=by decide +kernel
theorem d13_81 : e13 81=.ok (.iload_n 3,1):=by decide +kernel
theorem d13_82 : e13 82=.ok (.i2l,1):=by decide +kernel
theorem d13_83 : e13 83=.ok (.ladd,1):=by decide +kernel
theorem d13_84 : e13 84=.ok (.ldc2_w 105,3):=by decide +kernel
theorem d13_87 : e13 87=.ok (.invokestatic 107,3):=by decide +kernel
theorem d13_90 : e13 90=.ok (.l2i,1):=by decide +kernel
theorem d13_91 : e13 91=.ok (.istore 8,2):=by decide +kernel
theorem d13_93 : e13 93=.ok (.aload_n 0,1):=by decide +kernel
theorem d13_94 : e13 94=.ok (.iload 4,2):=by decide +kernel
theorem d13_96 : e13 96=.ok (.iconst 1,1):=by decide +kernel
theorem d13_97 : e13 97=.ok (.iadd,1):=by decide +kernel
theorem d13_98 : e13 98=.ok (.iload 7,2):=by decide +kernel
theorem d13_100 : e13 100=.ok (.iload_n 3,1):=by decide +kernel
theorem d13_101 : e13 101=.ok (.isub,1):=by decide +kernel
theorem d13_102 : e13 102=.ok (.invokestatic 69,3):=by decide +kernel
theorem d13_105 : e13 105=.ok (.iload 8,2):=by decide +kernel
theorem d13_107 : e13 107=.ok (.dload_n 1,1):=by decide +kernel
theorem d13_108 : e13 108=.ok (.invokevirtual 110,3):=by decide +kernel
theorem d13_111 : e13 111=.ok (.istore 9,2):=by decide +kernel
theorem d13_113 : e13 113=.ok (.iload 9,2):=by decide +kernel
theorem d13_115 : e13 115=.ok (.ifCond .ne 10,3):=by decide +kernel
theorem d13_118 : e13 118=.ok (.iload 8,2):=by decide +kernel
theorem d13_120 : e13 120=.ok (.istore 4,2):=by decide +kernel
theorem d13_122 : e13 122=.ok (.goto 11,3):=by decide +kernel
theorem d13_125 : e13 125=.ok (.iload 9,2):=by decide +kernel
theorem d13_127 : e13 127=.ok (.istore 4,2):=by decide +kernel
theorem d13_129 : e13 129=.ok (.iload 9,2):=by decide +kernel
theorem d13_131 : e13 131=.ok (.istore 5,2):=by decide +kernel
theorem d13_133 : e13 133=.ok (.iinc 6 1,3):=by decide +kernel
theorem d13_136 : e13 136=.ok (.goto (-102),3):=by decide +kernel
theorem d13_139 : e13 139=.ok (.aload_n 0,1):=by decide +kernel
theorem d13_140 : e13 140=.ok (.invokevirtual 114,3):=by decide +kernel
theorem d13_143 : e13 143=.ok (.aload_n 0,1):=by decide +kernel
theorem d13_144 : e13 144=.ok (.getfield 102,3):=by decide +kernel
theorem d13_147 : e13 147=.ok (.ireturn,1):=by decide +kernel
theorem pd_17 : parseMethodDescriptor "(JJ)J" = some ⟨[.long, .long], some .long⟩ := by decide +kernel
theorem pd_18 : parseMethodDescriptor "(IID)I" = some ⟨[.int, .int, .double], some .int⟩ := by decide +kernel
theorem own_find1_1_0 (hw : oHw a0 Z) {D1 D2 D4 D5 D7 : oDsc} {f_mc f_cc : Value} {q1 q2 : Value} {y0 dl : Int32} (hy0 : 1 ≤ y0.toInt ∧ y0.toInt ≤ 100000) {ocs : List Int64} {cnt : Nat} {cn : Int32} (hcn : cn.toInt = (cnt : Int)) (hO : oEnt ocs cnt 2) (hs : oSrt ocs cnt) (hol : ocs.length ≤ 1000) {wv : UInt64} {iw : Int} (hSt : Sta Z h0 "java/lang/StrictMath" "$assertionsDisabled" "Z" (.int 1)) (hwh : oWh wv) (hwv : FP.Core.DInt iw wv) (hiw : 1 ≤ iw) (hiw2 : iw ≤ 1000) {rds : List Int64} {cvs : List Value} {r0 r1 r2 : Int32} {ch : Int} {ti0 : Nat} {tx0 : Int64} (hdl : 1 ≤ dl.toInt ∧ dl.toInt ≤ 100000) (hrl : 1 ≤ rds.length ∧ rds.length ≤ 1000) (hcc : 0 < cvs.length) (hch : 0 ≤ ch ∧ ch ≤ 2) (hr0 : (r0.toInt = 0 ∧ ch = 0) ∨ (1 ≤ r0.toInt ∧ ch ≠ 0)) (hr1 : (r1.toInt = 0 ∧ ch = 1) ∨ (1 ≤ r1.toInt ∧ ch ≠ 1)) (hr2 : (r2.toInt = 0 ∧ ch = 2) ∨ (1 ≤ r2.toInt ∧ ch ≠ 2)) (ht0 : ti0 < cnt ∧ ocs[ti0]? = some tx0 ∧ tx0.toInt = y0.toInt * 4294967296 + ch) (hC : ∀ (i : Nat) (x : Int64) (p : Int), i < cnt → ocs[i]? = some x → x.toInt = p * 4294967296 + ch → p = y0.toInt) :
  oCtr l Z h0 [] nM32 prog_7_method_5_code 10 (some .int) (oR 6 1 2 124) #[.ref b3,.double wv] [(b0,.inl (.int,[.int y0])),(b1,D1),(b2,D2),(b3,oP b10 b13 b11 b12 b4 b5 b6 b7 b8 b9 (.int 1) (.ref b0) f_mc (.int cn) (.int dl) (.int 0) f_cc (.int 0) (.int 0) (.int 0)),(b4,D4),(b5,D5),(b6,.inl (.int,[.int r0,.int r1,.int r2])),(b7,D7),(b8,.inl (.array .int,[.ref b0,q1,q2])),(b9,.inl (.int,[.int 0,.int 0,.int 0])),(b10,.inl (.long,(ocs.map Value.long))),(b11,.inl (.long,(rds.map Value.long))),(b12,.inl (.int,cvs)),(b13,.inl (.int,[]))] (oVal fun w d=>∃ (b13' : Addr) (rds' : List Int64),w=.int 1∧d=[(b0,.inl (.int,[.int y0])),(b1,D1),(b2,D2),(b3,oP b10 b13' b11 b12 b4 b5 b6 b7 b8 b9 (.int 1) (.ref b0) f_mc (.int cn) (.int dl) (.int 1) (.int 1) (.int 0) (.int 0) (.int 0)),(b4,D4),(b5,D5),(b6,.inl (.int,[.int r0,.int r1,.int r2])),(b7,D7),(b8,.inl (.array .int,[.ref b0,q1,q2])),(b9,.inl (.int,[.int 0,.int 0,.int 0])),(b10,.inl (.long,(ocs.map Value.long))),(b11,.inl (.long,(rds'.map Value.long))),(b12,.inl (.int,(cvs.set 0 (.int 1)))),(b13',.inl (.int,[.int 0]))]∧rds'.length=rds.length):=by
 refine oCo #[.val (.ref b3),.val (.double wv),.second,.unset,.unset,.unset,.unset,.unset,.unset,.unset] ?_
 intro p e s m below meth c K
 refine Ya 1 K d13_0 ?_
 refine Ge b3 nM12 [] [] 0 1 2 4 K (hw 98) (hw 100) (hw 50) (hw 99) (hw 101) (hw 11) (own_widen1_1_0 @hw (by omega)) (lenOf pd_4 rfl) d13_1 ?_
 rintro _ ⟨b13',rfl⟩
 refine Y1 5 K d13_4 ?_
 refine oW.floorW (pc':=8) K @hw (hw 117) hSt hwh d13_5 rfl (by decide) (by decide) rfl ?_
 refine Ya 9 K d13_8 <|Yc 3 14 12 K (hw 65) d13_9 ?_
 obtain ⟨v12,ev12⟩:=oE (FP.i2d dl : UInt64)
 have dv12:=oI2D ev12
 refine Gh 13 K d13_12 ev12 ?_
 obtain ⟨md,emd⟩:=oE (Native.java_lang_Math.nans.pick64 false wv v12 : UInt64)
 have hmd : FP.Core.DInt (min iw dl.toInt) md:=by rw [emd]; exact oPick hwv dv12
 refine oW.minDW (pc':=16) K @hw (hw 140) (oNN hwv) (oNN dv12) emd d13_13 rfl (by decide) (by decide) (by decide) (by decide) rfl ?_
 obtain ⟨v16,ev16⟩:=oE (FP.d2i md : Int32)
 refine G3 17 K d13_16 ev16 ?_
 have tv16:=oD2I ev16 hmd (by omega)
 refine Yd 1 18 K d13_17 ?_
 obtain ⟨v18,ev18⟩:=oE (v16 - (1 : Int32) : Int32)
 refine Y9 19 K d13_18 ev18 ?_
 have tv18:=oIsub ev18 oOm
 try simp only [Int32.reduceToInt,Int64.reduceToInt] at tv18
 refine Yz 20 K d13_19 U3 <|Ya 21 K d13_20 <|Yd 0 22 K d13_21 ?_
 refine Yl 3 16 .int 25 K (hw 143) (Or.inl (hw 144)) (hw 10) (oAp_0 @hw) d13_22 rfl rfl (P3 F16) <|Yd 0 26 K d13_25 ?_
 refine Yj 28 K d13_26 U4 <|Yd 0 29 K d13_28 ?_
 refine Yj 31 K d13_29 U5 <|Yd 0 32 K d13_31 ?_
 refine Yj 34 K d13_32 U6 <|Yb 36 K d13_34 <|Ya 37 K d13_36 <|Yc 3 11 40 K (hw 59) d13_37 <|Yf 0 1 41 K d13_40 ?_
 refine Yy 139 44 K d13_41 <|Ya 45 K d13_44 <|Yc 3 11 48 K (hw 59) d13_45 <|Yb 50 K d13_48 <|Yn 0 0 51 K d13_50 ?_
 refine Yj 53 K d13_51 U7 <|Ya 54 K d13_53 <|Yc 3 1 57 K (hw 21) d13_54 <|Yb 59 K d13_57 <|Yn 13 0 60 K d13_59 <|Yd 1 61 K d13_60 ?_
 refine Ym 1 62 K d13_61 ?_
 refine G2 (4607182418800017408 : UInt64) 63 K d13_62 <|Y1 64 K d13_63 ?_
 obtain ⟨v64,ev64⟩:=oE (cmpValue (FP.dcmp (4607182418800017408 : UInt64) wv) .l : Int32)
 refine Gi 65 K d13_64 ev64 ?_
 refine oW.if_gt (pc':=133) (pc3:=68) K d13_65 (by decide) (by decide) rfl (fun q=>absurd ((oCmp (oDK 1 (by decide +kernel) (by decide)) hwv ev64).2.2.mp q) (by omega)) (fun c65=>?_)
 refine Yb 70 K d13_68 <|Yb 72 K d13_70 ?_
 refine oW.icmp_gt (pc':=78) (pc3:=75) K d13_72 (by decide) (by decide) rfl (fun c72=>?_) (fun q=>(by simp only [oLt32,oEq32,Int32.reduceToInt] at q; omega))
 refine Yb 80 K d13_78 ?_
 obtain ⟨v80,ev80⟩:=oE (y0.toInt64 : Int64)
 refine Gd 81 K d13_80 ev80 ?_
 have tv80 : v80.toInt=_:=oI2L ev80
 refine Ye 82 K d13_81 ?_
 obtain ⟨v82,ev82⟩:=oE (v18.toInt64 : Int64)
 refine Gd 83 K d13_82 ev82 ?_
 have tv82 : v82.toInt=_:=oI2L ev82
 obtain ⟨v83,ev83⟩:=oE (v80 + v82 : Int64)
 refine Gv 84 K d13_83 ev83 ?_
 have tv83:=oLadd ev83 oOm
 try simp only [Int32.reduceToInt,Int64.reduceToInt] at tv83
 refine Gx 87 K (hw 156) d13_84 ?_
 refine Yk [.long v83,.long 2147483647] [] 0 1 2 90 K (hw 157) (hw 158) (hw 7) (hw 159) (own_minJ @hw) (lenOf pd_17 rfl) d13_87 ?_
 rintro _ _ ⟨mj87,rfl,tmj87,rfl⟩
 rw [show (2147483647 : Int64).toInt=2147483647 by decide] at tmj87
 obtain ⟨v90,ev90⟩:=oE (mj87.toInt32 : Int32)
 refine Gs 91 K d13_90 ev90 ?_
 have tv90:=oL2I ev90 (by omega)
 refine Yj 93 K d13_91 U8 <|Ya 94 K d13_93 <|Yb 96 K d13_94 <|Yd 1 97 K d13_96 ?_
 refine Ym 1 98 K d13_97 <|Yb 100 K d13_98 <|Ye 101 K d13_100 ?_
 obtain ⟨v101,ev101⟩:=oE (y0 - v18 : Int32)
 refine Y9 102 K d13_101 ev101 ?_
 have tv101:=oIsub ev101 oOm
 try simp only [Int32.reduceToInt,Int64.reduceToInt] at tv101
 refine Yk [.int 1,.int v101] [.ref b3] 1 1 2 105 K (hw 73) (hw 6) (hw 7) (hw 8) (own_max @hw) (lenOf pd_9 rfl) d13_102 ?_
 rintro _ _ ⟨lo102,rfl,tlo102,rfl⟩
 try simp only [Int32.reduceToInt] at tlo102
 refine Yb 107 K d13_105 <|Y1 108 K d13_107 ?_
 refine Gk b3 nM12 [.int lo102,.int v90,.double wv] [] 0 1 2 111 K (hw 160) (hw 162) (hw 50) (hw 161) (hw 163) (hw 11) (own_rr1_0 @hw hcn hO hs hol hwv hiw (by omega) (by omega) hch hr0 hr1 hr2 (by omega) (by omega) ht0.1 ht0.2.1 ht0.2.2 (fun i x p a b c g=>by have:=hC i x p a b c; omega)) (lenOf pd_18 rfl) d13_108 ?_
 rintro _ _ ⟨rds0,z0,rfl,rfl,hl0,tz0⟩
 refine Yj 113 K d13_111 U9 <|Yb 115 K d13_113 ?_
 refine oW.if_ne (pc':=125) (pc3:=118) K d13_115 (by decide) (by decide) rfl (fun c115=>?_) (fun q=>(by simp only [oLt32,oEq32,Int32.reduceToInt] at q; omega))
 refine Yb 127 K d13_125 ?_
 refine Yj 129 K d13_127 U4 <|Yb 131 K d13_129 ?_
 refine Yj 133 K d13_131 U5 ?_
 refine Yg 1 136 K d13_133 U6 <|Yi 34 K d13_136 <|Yb 36 K d13_34 <|Ya 37 K d13_36 <|Yc 3 11 40 K (hw 59) d13_37 <|Yf 0 1 41 K d13_40 ?_
 refine Y8 139 44 K d13_41 <|Ya 140 K d13_139 ?_
 refine Ge b3 nM12 [] [] 0 1 2 143 K (hw 145) (hw 147) (hw 50) (hw 146) (hw 148) (hw 11) (own_restart @hw (n:=0) (by decide) (by omega) oEnt.z oKp.z oKp.z (by decide)) (lenOf pd_4 rfl) d13_140 ?_
 rintro _ rfl
 refine Ya 144 K d13_143 <|Yc 3 16 147 K (hw 143) d13_144 ?_
 exact Yq K d13_147 ⟨_,rfl,_,_,rfl,rfl,hl0⟩
theorem pd_19 : parseMethodDescriptor "(D)I" = some ⟨[.double], some .int⟩ := by decide +kernel
theorem pd_20 : parseMethodDescriptor "(I)I" = some ⟨[.int], some .int⟩ := by decide +kernel
theorem own_add2_1_11 (hw : oHw a0 Z) {D0 D2 D5 D9 D10 D11 D12 D13 : oDsc} {f_mc f_cn f_dl f_wi f_cc f_rc f_hd f_ea : Value} {y0 : Int32} :
  oCtr l Z h0 [] nM29 prog_7_method_3_code 5 none (oR 2 3 24 90) #[.ref b3,.int 1,.ref b1] [(b0,D0),(b1,.inl (.int,[.int y0])),(b2,D2),(b3,oP b10 b13 b11 b12 b4 b5 b6 b7 b8 b9 (.int 0) .null f_mc f_cn f_dl f_wi f_cc f_rc f_hd f_ea),(b4,.inl (.boolean,[.int 1,.int 1,.int 0])),(b5,D5),(b6,.inl (.int,[.int 2147483647,.int 2147483647,.int 2147483647])),(b7,.inl (.int,[.int 0,.int 1,.int 0])),(b8,.inl (.array .int,[.null,.null,.null])),(b9,D9),(b10,D10),(b11,D11),(b12,D12),(b13,D13)] (oVoid fun d=>d=[(b0,D0),(b1,.inl (.int,[.int y0])),(b2,D2),(b3,oP b10 b13 b11 b12 b4 b5 b6 b7 b8 b9 (.int 1) (.ref b1) f_mc f_cn f_dl (.int 0) f_cc f_rc f_hd f_ea),(b4,.inl (.boolean,[.int 1,.int 1,.int 0])),(b5,D5),(b6,.inl (.int,[.int 2147483647,.int 0,.int 2147483647])),(b7,.inl (.int,[.int 1,.int 1,.int 0])),(b8,.inl (.array .int,[.ref b1,.null,.null])),(b9,D9),(b10,D10),(b11,D11),(b12,D12),(b13,D13)]):=by
 refine oCo #[.val (.ref b3),.val (.int 1),.val (.ref b1),.unset,.unset] ?_
 intro p e s m below meth c K
 refine Ya 1 K d8_0 <|Yc 3 6 4 K (hw 32) d8_1 <|Ye 5 K d8_4 <|Ya 6 K d8_5 <|Yc 3 10 9 K (hw 57) d8_6 ?_
 refine Yr 6 1 10 K d8_9 rfl (S6 T1) <|Ya 11 K d8_10 <|Yc 3 7 14 K (hw 39) d8_11 <|Ya 15 K d8_14 <|Yc 3 10 18 K (hw 57) d8_15 <|Ye 19 K d8_18 ?_
 refine Yr 7 0 20 K d8_19 rfl (S7 T0) <|Ya 21 K d8_20 <|Yc 3 8 24 K (hw 43) d8_21 <|Ya 25 K d8_24 <|Yc 3 10 28 K (hw 57) d8_25 <|Ya 29 K d8_28 ?_
 refine Go 8 1 0 30 K d8_29 rfl (S8 T0) <|Ya 31 K d8_30 ?_
 refine Yv 32 K d8_31 <|Yc 3 10 35 K (hw 57) d8_32 <|Yd 1 36 K d8_35 ?_
 refine Ym 1 37 K d8_36 ?_
 refine Yl 3 10 .int 40 K (hw 57) (Or.inl (hw 58)) (hw 10) (oAp_0 @hw) d8_37 rfl rfl (P3 F10) <|Ya 41 K d8_40 <|Yc 3 4 44 K (hw 28) d8_41 <|Ye 45 K d8_44 <|Gn 4 1 46 K d8_45 ?_
 refine Hi 149 49 K d8_46 <|Ya 150 K d8_149 <|Yc 3 11 153 K (hw 59) d8_150 ?_
 refine Gw 168 K d8_153 <|Ya 169 K d8_168 <|Ya 170 K d8_169 ?_
 refine Yl 3 11 (.array .int) 173 K (hw 59) (Or.inl (hw 60)) (hw 10) (oAp_0 @hw) d8_170 rfl rfl (P3 F11) <|Ya 174 K d8_173 <|Yd 0 175 K d8_174 ?_
 refine Yl 3 15 .int 178 K (hw 91) (Or.inl (hw 92)) (hw 10) (oAp_0 @hw) d8_175 rfl rfl (P3 F15) ?_
 exact Ga K d8_178 ⟨rfl,rfl⟩
theorem own_copy_2_4 (hw : oHw a0 Z) {D0 D1 D2 D3 D4 D5 D6 D7 D8 D9 D11 D12 D13 : oDsc} {g0 g1 : Int64} :
  oCtr l Z h0 [] nM27 jdk_65_method_124_code 3 (some (.array .long)) (oR 1 1 4 48) #[.ref b10,.int 4] [(b0,D0),(b1,D1),(b2,D2),(b3,D3),(b4,D4),(b5,D5),(b6,D6),(b7,D7),(b8,D8),(b9,D9),(b10,.inl (.long,[.long g0,.long g1])),(b11,D11),(b12,D12),(b13,D13)] (oVal fun w d=>∃ b14 : Addr,w=.ref b14∧d=[(b0,D0),(b1,D1),(b2,D2),(b3,D3),(b4,D4),(b5,D5),(b6,D6),(b7,D7),(b8,D8),(b9,D9),(b10,.inl (.long,[.long g0,.long g1])),(b11,D11),(b12,D12),(b13,D13),(b14,.inl (.long,[.long g0,.long g1,.long 0,.long 0]))]):=by
 refine oCo #[.val (.ref b10),.val (.int 4),.unset] ?_
 intro p e s m below meth c K
 refine Ye 1 K d9_0 <|Ya 2 K d9_1 <|Yf 10 2 3 K d9_2 ?_
 refine Gj 14 6 K d9_3 <|Ye 15 K d9_14 ?_
 refine Y3 4 1 4 17 K (hw 18) d9_15 (N14 (.inl (.long,[.long 0,.long 0,.long 0,.long 0]))) ?_
 intro a15 ha15
 refine Gl 18 K d9_17 U2 <|Ya 19 K d9_18 <|Yd 0 20 K d9_19 <|Ya 21 K d9_20 <|Yd 0 22 K d9_21 <|Ya 23 K d9_22 <|Yf 10 2 24 K d9_23 <|Ye 25 K d9_24 ?_
 refine Yk [.int 2,.int 4] [.int 0,.ref a15,.int 0,.ref b10] 4 1 4 28 K (hw 77) (hw 78) (hw 7) (hw 79) (own_min @hw) (lenOf pd_9 rfl) d9_25 ?_
 rintro _ _ ⟨mz,rfl,hmz,rfl⟩
 obtain rfl : mz=(2 : Int32):=oEq32.mpr (hmz.trans (by decide))
 refine oW.copyJ (W:=0) (i1:=10) (i2:=14) (xs:=[g0,g1]) (us:=[0,0,0,0]) (ds':=[(b0,D0),(b1,D1),(b2,D2),(b3,D3),(b4,D4),(b5,D5),(b6,D6),(b7,D7),(b8,D8),(b9,D9),(b10,.inl (.long,[.long g0,.long g1])),(b11,D11),(b12,D12),(b13,D13),(a15,.inl (.long,[.long g0,.long g1,.long 0,.long 0]))]) (pc':=31) K (hw 80) (hw 83) (hw 81) (hw 82) d9_28 rfl rfl rfl rfl rfl (Nat.le_of_ble_eq_true rfl) (by decide) rfl rfl (by decide) (Nat.le_of_eq rfl) (by decide) rfl ?_
 refine Ya 32 K d9_31 ?_
 exact G0 K d9_32 ⟨_,rfl,_,rfl,rfl⟩
theorem own_aw_2_2_1 (hw : oHw a0 Z) {D0 D1 D3 D4 D5 D6 D7 D8 D9 D11 D12 D13 : oDsc} {g0 g1 t0 : Int64} {rt : List Value} {y0 : Int32} (hy0 : 1≤y0.toInt∧y0.toInt≤100000) (hch : oCh [g0,g1]) (hne00 : g0.toInt ≠ y0.toInt * 4294967296 + 2) (hne10 : g1.toInt ≠ y0.toInt * 4294967296 + 2) :
  oCtr l Z h0 [] nM28 prog_6_method_3_code 9 (some .int) (oR 1 0 0 24) #[.ref b10,.int 2,.ref b2,.int 2] [(b0,D0),(b1,D1),(b2,.inl (.int,[.int y0])),(b3,D3),(b4,D4),(b5,D5),(b6,D6),(b7,D7),(b8,D8),(b9,D9),(b10,.inl (.long,(.long g0)::(.long g1)::(.long t0)::rt)),(b11,D11),(b12,D12),(b13,D13)] (oVal fun w d=>∃ (z0 z1 z2 : Int64),w=.int 3∧d=[(b0,D0),(b1,D1),(b2,.inl (.int,[.int y0])),(b3,D3),(b4,D4),(b5,D5),(b6,D6),(b7,D7),(b8,D8),(b9,D9),(b10,.inl (.long,(.long z0)::(.long z1)::(.long z2)::rt)),(b11,D11),(b12,D12),(b13,D13)]∧oCh [z0,z1,z2]∧∀ v : Int,(v=z0.toInt∨v=z1.toInt∨v=z2.toInt) ↔ ((v=g0.toInt∨v=g1.toInt)∨(v=y0.toInt * 4294967296 + 2))):=by
 refine oCo #[.val (.ref b10),.val (.int 2),.val (.ref b2),.val (.int 2),.unset,.unset,.unset,.unset,.unset] ?_
 intro p e s m below meth c K
 simp only [oCh,and_true] at hch
 refine Ye 1 K d11_0 <|Ya 2 K d11_1 <|Yf 2 1 3 K d11_2 ?_
 refine Ym 3 4 K d11_3 <|Yd 1 5 K d11_4 ?_
 refine Y4 2 6 K d11_5 ?_
 refine Yj 8 K d11_6 U4 <|Ye 9 K d11_8 <|Yd 1 10 K d11_9 ?_
 refine Y4 1 11 K d11_10 ?_
 refine Yj 13 K d11_11 U5 <|Ya 14 K d11_13 <|Yf 2 1 15 K d11_14 <|Yd 1 16 K d11_15 ?_
 refine Y4 0 17 K d11_16 ?_
 refine Yj 19 K d11_17 U6 <|Yb 21 K d11_19 ?_
 refine Yw 81 24 K d11_21 <|Ya 25 K d11_24 <|Yb 27 K d11_25 <|Yn 2 0 28 K d11_27 <|Ye 29 K d11_28 ?_
 refine Yk [.int y0,.int 2] [] 0 0 0 32 K (hw 88) (hw 89) (hw 86) (hw 90) (own_of @hw (by omega) (by decide)) (lenOf pd_2 rfl) d11_29 ?_
 rintro _ _ ⟨c0,rfl,tc0,rfl⟩
 simp only [Int32.reduceToInt] at tc0
 refine Gf #[.val (.ref b10),.val (.int 2),.val (.ref b2),.val (.int 2),.val (.int 2),.val (.int 1),.val (.int 0),.val (.long c0),.second] 34 K d11_32 <|Yb 36 K d11_34 ?_
 refine Yw 66 39 K d11_36 <|Ya 40 K d11_39 <|Yb 42 K d11_40 <|Yt 10 1 43 K d11_42 <|Yo 45 K d11_43 ?_
 obtain ⟨v45,ev45⟩:=oE (XT.cmpL g1 c0 : Int32)
 refine Y6 46 K d11_45 ev45 ?_
 refine Y2 66 49 K d11_46 (fun c46=>?_) (fun c46=>?_)
 ·rw [(oLcmp ev45).2.2] at c46
  refine Ya 67 K d11_66 <|Yb 69 K d11_67 ?_
  refine Yg 1 72 K d11_69 U4 <|Yo 74 K d11_72 ?_
  refine Yp 10 2 75 K d11_74 rfl oL2 (S10 T2) ?_
  refine Yg (-1 : Int32) 78 K d11_75 U6 <|Yi 19 K d11_78 <|Yb 21 K d11_19 ?_
  refine Ys 81 24 K d11_21 <|Ye 82 K d11_81 <|Ya 83 K d11_82 <|Yf 2 1 84 K d11_83 ?_
  refine Ym 3 85 K d11_84 ?_
  exact Yq K d11_85 ⟨_,rfl,_,_,_,rfl,rfl,⟨by omega,by omega,trivial⟩,fun v=>by omega⟩
 rw [(oLcmp ev45).2.2] at c46
 refine Ya 50 K d11_49 <|Yb 52 K d11_50 ?_
 refine Yg 1 55 K d11_52 U4 <|Ya 56 K d11_55 <|Yb 58 K d11_56 ?_
 refine Yg 0 61 K d11_58 U5 <|Yt 10 1 62 K d11_61 ?_
 refine Yp 10 2 63 K d11_62 rfl oL2 (S10 T2) <|Yi 34 K d11_63 <|Yb 36 K d11_34 ?_
 refine Yw 66 39 K d11_36 <|Ya 40 K d11_39 <|Yb 42 K d11_40 <|Yt 10 0 43 K d11_42 <|Yo 45 K d11_43 ?_
 obtain ⟨v45_1,ev45_1⟩:=oE (XT.cmpL g0 c0 : Int32)
 refine Y6 46 K d11_45 ev45_1 ?_
 refine Y2 66 49 K d11_46 (fun c46_1=>?_) (fun c46_1=>?_)
 ·rw [(oLcmp ev45_1).2.2] at c46_1
  refine Ya 67 K d11_66 <|Yb 69 K d11_67 ?_
  refine Yg 0 72 K d11_69 U4 <|Yo 74 K d11_72 ?_
  refine Yp 10 1 75 K d11_74 rfl oL1 (S10 T1) ?_
  refine Yg (-1 : Int32) 78 K d11_75 U6 <|Yi 19 K d11_78 <|Yb 21 K d11_19 ?_
  refine Ys 81 24 K d11_21 <|Ye 82 K d11_81 <|Ya 83 K d11_82 <|Yf 2 1 84 K d11_83 ?_
  refine Ym 3 85 K d11_84 ?_
  exact Yq K d11_85 ⟨_,rfl,_,_,_,rfl,rfl,⟨by omega,by omega,trivial⟩,fun v=>by omega⟩
 rw [(oLcmp ev45_1).2.2] at c46_1
 refine Ya 50 K d11_49 <|Yb 52 K d11_50 ?_
 refine Yg 0 55 K d11_52 U4 <|Ya 56 K d11_55 <|Yb 58 K d11_56 ?_
 refine Yg (-1 : Int32) 61 K d11_58 U5 <|Yt 10 0 62 K d11_61 ?_
 refine Yp 10 1 63 K d11_62 rfl oL1 (S10 T1) <|Yi 34 K d11_63 <|Yb 36 K d11_34 ?_
 refine Ys 66 39 K d11_36 <|Ya 67 K d11_66 <|Yb 69 K d11_67 ?_
 refine Yg (-1 : Int32) 72 K d11_69 U4 <|Yo 74 K d11_72 ?_
 refine Yp 10 0 75 K d11_74 rfl oL0 (S10 T0) ?_
 refine Yg (-1 : Int32) 78 K d11_75 U6 <|Yi 19 K d11_78 <|Yb 21 K d11_19 ?_
 refine Ys 81 24 K d11_21 <|Ye 82 K d11_81 <|Ya 83 K d11_82 <|Yf 2 1 84 K d11_83 ?_
 refine Ym 3 85 K d11_84 ?_
 exact Yq K d11_85 ⟨_,rfl,_,_,_,rfl,rfl,⟨by omega,by omega,trivial⟩,fun v=>by omega⟩
theorem own_add3_2_111 (hw : oHw a0 Z) {D0 D1 D9 D11 D12 D13 : oDsc} {f_dl f_wi f_cc f_rc f_hd f_ea : Value} {g0 g1 : Int64} {u0 : Int32} (hu0 : 1≤u0.toInt∧u0.toInt≤100000) (hch : oCh [g0,g1]) (hne00 : g0.toInt ≠ u0.toInt * 4294967296 + 2) (hne10 : g1.toInt ≠ u0.toInt * 4294967296 + 2) :
  oCtr l Z h0 [] nM29 prog_7_method_3_code 5 none (oR 2 3 24 90) #[.ref b3,.int 2,.ref b2] [(b0,D0),(b1,D1),(b2,.inl (.int,[.int u0])),(b3,oP b10 b13 b11 b12 b4 b5 b6 b7 b8 b9 (.int 0) .null (.int 2) (.int 2) f_dl f_wi f_cc f_rc f_hd f_ea),(b4,.inl (.boolean,[.int 1,.int 1,.int 0])),(b5,.inl (.int,[.int 0,.int 1,.int 0])),(b6,.inl (.int,[.int 2147483647,.int 2147483647,.int 2147483647])),(b7,.inl (.int,[.int 0,.int 1,.int 0])),(b8,.inl (.array .int,[.null,.null,.null])),(b9,D9),(b10,.inl (.long,[.long g0,.long g1])),(b11,D11),(b12,D12),(b13,D13)] (oVoid fun d=>∃ (b10' b11' b12' : Addr) (z0 z1 z2 : Int64),d=[(b0,D0),(b1,D1),(b2,.inl (.int,[.int u0])),(b3,oP b10' b13 b11' b12' b4 b5 b6 b7 b8 b9 (.int 1) (.ref b2) (.int 3) (.int 3) f_dl (.int 0) f_cc f_rc f_hd f_ea),(b4,.inl (.boolean,[.int 1,.int 1,.int 1])),(b5,.inl (.int,[.int 0,.int 1,.int 2])),(b6,.inl (.int,[.int 2147483647,.int 2147483647,.int 0])),(b7,.inl (.int,[.int 2,.int 1,.int 0])),(b8,.inl (.array .int,[.ref b2,.null,.null])),(b9,D9),(b10',.inl (.long,[.long z0,.long z1,.long z2,.long 0])),(b11',.inl (.long,[.long 0,.long 0,.long 0,.long 0])),(b12',.inl (.int,[.int 0,.int 0,.int 0,.int 0])),(b13,D13)]∧oCh [z0,z1,z2]∧∀ v : Int,(v=z0.toInt∨v=z1.toInt∨v=z2.toInt) ↔ ((v=g0.toInt∨v=g1.toInt)∨(v=u0.toInt * 4294967296 + 2))):=by
 refine oCo #[.val (.ref b3),.val (.int 2),.val (.ref b2),.unset,.unset] ?_
 intro p e s m below meth c K
 refine Ya 1 K d8_0 <|Yc 3 6 4 K (hw 32) d8_1 <|Ye 5 K d8_4 <|Ya 6 K d8_5 <|Yc 3 10 9 K (hw 57) d8_6 ?_
 refine Yr 6 2 10 K d8_9 rfl (S6 T2) <|Ya 11 K d8_10 <|Yc 3 7 14 K (hw 39) d8_11 <|Ya 15 K d8_14 <|Yc 3 10 18 K (hw 57) d8_15 <|Ye 19 K d8_18 ?_
 refine Yr 7 0 20 K d8_19 rfl (S7 T0) <|Ya 21 K d8_20 <|Yc 3 8 24 K (hw 43) d8_21 <|Ya 25 K d8_24 <|Yc 3 10 28 K (hw 57) d8_25 <|Ya 29 K d8_28 ?_
 refine Go 8 2 0 30 K d8_29 rfl (S8 T0) <|Ya 31 K d8_30 ?_
 refine Yv 32 K d8_31 <|Yc 3 10 35 K (hw 57) d8_32 <|Yd 1 36 K d8_35 ?_
 refine Ym 1 37 K d8_36 ?_
 refine Yl 3 10 .int 40 K (hw 57) (Or.inl (hw 58)) (hw 10) (oAp_0 @hw) d8_37 rfl rfl (P3 F10) <|Ya 41 K d8_40 <|Yc 3 4 44 K (hw 28) d8_41 <|Ye 45 K d8_44 <|Gn 4 2 46 K d8_45 ?_
 refine Gc 149 49 K d8_46 <|Ya 50 K d8_49 <|Yc 3 4 53 K (hw 28) d8_50 <|Ye 54 K d8_53 <|Yd 1 55 K d8_54 ?_
 refine Gy 4 2 (.int (1 : Int32)) 56 K d8_55 rfl (S4 T2) <|Ya 57 K d8_56 <|Yc 3 5 60 K (hw 30) d8_57 <|Ya 61 K d8_60 ?_
 refine Yv 62 K d8_61 <|Yc 3 12 65 K (hw 61) d8_62 ?_
 refine Gg 66 K d8_65 <|Yd 1 67 K d8_66 ?_
 refine Ym 3 68 K d8_67 ?_
 refine Yl 3 12 .int 71 K (hw 61) (Or.inl (hw 62)) (hw 10) (oAp_0 @hw) d8_68 rfl rfl (P3 F12) <|Ye 72 K d8_71 ?_
 refine Yr 5 2 73 K d8_72 rfl (S5 T2) <|Ya 74 K d8_73 <|Yc 3 13 77 K (hw 63) d8_74 <|Ya 78 K d8_77 <|Yf 2 1 79 K d8_78 ?_
 refine Ym 3 80 K d8_79 ?_
 refine Yz 81 K d8_80 U3 <|Ya 82 K d8_81 <|Yc 3 0 85 K (hw 19) d8_82 <|Yf 10 2 86 K d8_85 <|Ye 87 K d8_86 ?_
 refine Yy 132 90 K d8_87 <|Ye 91 K d8_90 <|Yd 2 92 K d8_91 <|Ya 93 K d8_92 <|Yc 3 0 96 K (hw 19) d8_93 <|Yf 10 2 97 K d8_96 ?_
 refine Gq 4 98 K d8_97 ?_
 refine Yk [.int 3,.int 4] [] 0 0 0 101 K (hw 73) (hw 6) (hw 7) (hw 8) (own_max @hw) (lenOf pd_9 rfl) d8_98 ?_
 rintro _ _ ⟨mz,rfl,hmz,rfl⟩
 obtain rfl : mz=(4 : Int32):=oEq32.mpr (hmz.trans (by decide))
 refine Yj 103 K d8_101 U4 <|Ya 104 K d8_103 <|Ya 105 K d8_104 <|Yc 3 0 108 K (hw 19) d8_105 <|Yb 110 K d8_108 ?_
 refine Yk [.ref b10,.int 4] [.ref b3] 1 1 4 113 K (hw 74) (hw 75) (hw 37) (hw 76) (own_copy_2_4 @hw) (lenOf pd_13 rfl) d8_110 ?_
 rintro _ _ ⟨b14,rfl,rfl⟩
 refine Yl 3 0 (.array .long) 116 K (hw 19) (Or.inl (hw 20)) (hw 10) (oAp_0 @hw) d8_113 rfl rfl (P3 F0) <|Ya 117 K d8_116 <|Yb 119 K d8_117 ?_
 refine Y3 4 2 8 121 K (hw 18) d8_119 (N15 (.inl (.long,[.long 0,.long 0,.long 0,.long 0]))) ?_
 intro a119 ha119
 refine Yl 3 2 (.array .long) 124 K (hw 23) (Or.inl (hw 24)) (hw 10) (oAp_0 @hw) d8_121 rfl rfl (P3 F2) <|Ya 125 K d8_124 <|Yb 127 K d8_125 ?_
 refine Y3 4 3 12 129 K (hw 4) d8_127 (N16 (.inl (.int,[.int 0,.int 0,.int 0,.int 0]))) ?_
 intro a127 ha127
 refine Yl 3 3 (.array .int) 132 K (hw 25) (Or.inl (hw 26)) (hw 10) (oAp_0 @hw) d8_129 rfl rfl (P3 F3) ?_
 refine oPk1 ?_
 refine Ya 133 K d8_132 <|Ya 134 K d8_133 <|Yc 3 0 137 K (hw 19) d8_134 <|Ya 138 K d8_137 <|Yc 3 13 141 K (hw 63) d8_138 <|Ya 142 K d8_141 <|Ye 143 K d8_142 ?_
 refine Yk [.ref b14,.int 2,.ref b2,.int 2] [.ref b3] 1 3 12 146 K (hw 84) (hw 85) (hw 86) (hw 87) (own_aw_2_2_1 @hw (by omega) hch hne00 hne10) (lenOf pd_14 rfl) d8_143 ?_
 rintro _ _ ⟨z0,z1,z2,rfl,rfl,hz1,hz2⟩
 refine Yl 3 13 .int 149 K (hw 63) (Or.inl (hw 64)) (hw 10) (oAp_0 @hw) d8_146 rfl rfl (P3 F13) <|Ya 150 K d8_149 <|Yc 3 11 153 K (hw 59) d8_150 ?_
 refine Gw 168 K d8_153 <|Ya 169 K d8_168 <|Ya 170 K d8_169 ?_
 refine Yl 3 11 (.array .int) 173 K (hw 59) (Or.inl (hw 60)) (hw 10) (oAp_0 @hw) d8_170 rfl rfl (P3 F11) <|Ya 174 K d8_173 <|Yd 0 175 K d8_174 ?_
 refine Yl 3 15 .int 178 K (hw 91) (Or.inl (hw 92)) (hw 10) (oAp_0 @hw) d8_175 rfl rfl (P3 F15) ?_
 exact Ga K d8_178 ⟨rfl,_,_,_,_,_,_,rfl,hz1,hz2⟩
theorem own_aw_2_2_2 (hw : oHw a0 Z) {D0 D1 D3 D4 D5 D6 D7 D8 D9 D11 D12 D13 : oDsc} {g0 g1 t0 t1 : Int64} {rt : List Value} {y0 y1 : Int32} (hy0 : 1≤y0.toInt∧y0.toInt≤100000) (hy1 : 1≤y1.toInt∧y1.toInt≤100000) (hy0y1 : y0.toInt < y1.toInt) (hch : oCh [g0,g1]) (hne00 : g0.toInt ≠ y0.toInt * 4294967296 + 2) (hne01 : g0.toInt ≠ y1.toInt * 4294967296 + 2) (hne10 : g1.toInt ≠ y0.toInt * 4294967296 + 2) (hne11 : g1.toInt ≠ y1.toInt * 4294967296 + 2) :
  oCtr l Z h0 [] nM28 prog_6_method_3_code 9 (some .int) (oR 1 0 0 24) #[.ref b10,.int 2,.ref b2,.int 2] [(b0,D0),(b1,D1),(b2,.inl (.int,[.int y0,.int y1])),(b3,D3),(b4,D4),(b5,D5),(b6,D6),(b7,D7),(b8,D8),(b9,D9),(b10,.inl (.long,(.long g0)::(.long g1)::(.long t0)::(.long t1)::rt)),(b11,D11),(b12,D12),(b13,D13)] (oVal fun w d=>∃ (z0 z1 z2 z3 : Int64),w=.int 4∧d=[(b0,D0),(b1,D1),(b2,.inl (.int,[.int y0,.int y1])),(b3,D3),(b4,D4),(b5,D5),(b6,D6),(b7,D7),(b8,D8),(b9,D9),(b10,.inl (.long,(.long z0)::(.long z1)::(.long z2)::(.long z3)::rt)),(b11,D11),(b12,D12),(b13,D13)]∧oCh [z0,z1,z2,z3]∧∀ v : Int,(v=z0.toInt∨v=z1.toInt∨v=z2.toInt∨v=z3.toInt) ↔ ((v=g0.toInt∨v=g1.toInt)∨(v=y0.toInt * 4294967296 + 2∨v=y1.toInt * 4294967296 + 2))):=by
 refine oCo #[.val (.ref b10),.val (.int 2),.val (.ref b2),.val (.int 2),.unset,.unset,.unset,.unset,.unset] ?_
 intro p e s m below meth c K
 simp only [oCh,and_true] at hch
 refine Ye 1 K d11_0 <|Ya 2 K d11_1 <|Yf 2 2 3 K d11_2 ?_
 refine Ym 4 4 K d11_3 <|Yd 1 5 K d11_4 ?_
 refine Y4 3 6 K d11_5 ?_
 refine Yj 8 K d11_6 U4 <|Ye 9 K d11_8 <|Yd 1 10 K d11_9 ?_
 refine Y4 1 11 K d11_10 ?_
 refine Yj 13 K d11_11 U5 <|Ya 14 K d11_13 <|Yf 2 2 15 K d11_14 <|Yd 1 16 K d11_15 ?_
 refine Y4 1 17 K d11_16 ?_
 refine Yj 19 K d11_17 U6 <|Yb 21 K d11_19 ?_
 refine Yw 81 24 K d11_21 <|Ya 25 K d11_24 <|Yb 27 K d11_25 <|Yn 2 1 28 K d11_27 <|Ye 29 K d11_28 ?_
 refine Yk [.int y1,.int 2] [] 0 0 0 32 K (hw 88) (hw 89) (hw 86) (hw 90) (own_of @hw (by omega) (by decide)) (lenOf pd_2 rfl) d11_29 ?_
 rintro _ _ ⟨c1,rfl,tc1,rfl⟩
 simp only [Int32.reduceToInt] at tc1
 refine Gf #[.val (.ref b10),.val (.int 2),.val (.ref b2),.val (.int 2),.val (.int 3),.val (.int 1),.val (.int 1),.val (.long c1),.second] 34 K d11_32 <|Yb 36 K d11_34 ?_
 refine Yw 66 39 K d11_36 <|Ya 40 K d11_39 <|Yb 42 K d11_40 <|Yt 10 1 43 K d11_42 <|Yo 45 K d11_43 ?_
 obtain ⟨v45,ev45⟩:=oE (XT.cmpL g1 c1 : Int32)
 refine Y6 46 K d11_45 ev45 ?_
 refine Y2 66 49 K d11_46 (fun c46=>?_) (fun c46=>?_)
 ·rw [(oLcmp ev45).2.2] at c46
  refine Ya 67 K d11_66 <|Yb 69 K d11_67 ?_
  refine Yg 2 72 K d11_69 U4 <|Yo 74 K d11_72 ?_
  refine Yp 10 3 75 K d11_74 rfl oL3 (S10 T3) ?_
  refine Yg 0 78 K d11_75 U6 <|Yi 19 K d11_78 <|Yb 21 K d11_19 ?_
  refine Yw 81 24 K d11_21 <|Ya 25 K d11_24 <|Yb 27 K d11_25 <|Yn 2 0 28 K d11_27 <|Ye 29 K d11_28 ?_
  refine Yk [.int y0,.int 2] [] 0 0 0 32 K (hw 88) (hw 89) (hw 86) (hw 90) (own_of @hw (by omega) (by decide)) (lenOf pd_2 rfl) d11_29 ?_
  rintro _ _ ⟨c0,rfl,tc0,rfl⟩
  simp only [Int32.reduceToInt] at tc0
  refine Gf #[.val (.ref b10),.val (.int 2),.val (.ref b2),.val (.int 2),.val (.int 2),.val (.int 1),.val (.int 0),.val (.long c0),.second] 34 K d11_32 <|Yb 36 K d11_34 ?_
  refine Yw 66 39 K d11_36 <|Ya 40 K d11_39 <|Yb 42 K d11_40 <|Yt 10 1 43 K d11_42 <|Yo 45 K d11_43 ?_
  obtain ⟨v45_1,ev45_1⟩:=oE (XT.cmpL g1 c0 : Int32)
  refine Y6 46 K d11_45 ev45_1 ?_
  refine Y2 66 49 K d11_46 (fun c46_1=>?_) (fun c46_1=>?_)
  ·rw [(oLcmp ev45_1).2.2] at c46_1
   refine Ya 67 K d11_66 <|Yb 69 K d11_67 ?_
   refine Yg 1 72 K d11_69 U4 <|Yo 74 K d11_72 ?_
   refine Yp 10 2 75 K d11_74 rfl oL2 (S10 T2) ?_
   refine Yg (-1 : Int32) 78 K d11_75 U6 <|Yi 19 K d11_78 <|Yb 21 K d11_19 ?_
   refine Ys 81 24 K d11_21 <|Ye 82 K d11_81 <|Ya 83 K d11_82 <|Yf 2 2 84 K d11_83 ?_
   refine Ym 4 85 K d11_84 ?_
   exact Yq K d11_85 ⟨_,rfl,_,_,_,_,rfl,rfl,⟨by omega,by omega,by omega,trivial⟩,fun v=>by omega⟩
  rw [(oLcmp ev45_1).2.2] at c46_1
  refine Ya 50 K d11_49 <|Yb 52 K d11_50 ?_
  refine Yg 1 55 K d11_52 U4 <|Ya 56 K d11_55 <|Yb 58 K d11_56 ?_
  refine Yg 0 61 K d11_58 U5 <|Yt 10 1 62 K d11_61 ?_
  refine Yp 10 2 63 K d11_62 rfl oL2 (S10 T2) <|Yi 34 K d11_63 <|Yb 36 K d11_34 ?_
  refine Yw 66 39 K d11_36 <|Ya 40 K d11_39 <|Yb 42 K d11_40 <|Yt 10 0 43 K d11_42 <|Yo 45 K d11_43 ?_
  obtain ⟨v45_2,ev45_2⟩:=oE (XT.cmpL g0 c0 : Int32)
  refine Y6 46 K d11_45 ev45_2 ?_
  refine Y2 66 49 K d11_46 (fun c46_2=>?_) (fun c46_2=>?_)
  ·rw [(oLcmp ev45_2).2.2] at c46_2
   refine Ya 67 K d11_66 <|Yb 69 K d11_67 ?_
   refine Yg 0 72 K d11_69 U4 <|Yo 74 K d11_72 ?_
   refine Yp 10 1 75 K d11_74 rfl oL1 (S10 T1) ?_
   refine Yg (-1 : Int32) 78 K d11_75 U6 <|Yi 19 K d11_78 <|Yb 21 K d11_19 ?_
   refine Ys 81 24 K d11_21 <|Ye 82 K d11_81 <|Ya 83 K d11_82 <|Yf 2 2 84 K d11_83 ?_
   refine Ym 4 85 K d11_84 ?_
   exact Yq K d11_85 ⟨_,rfl,_,_,_,_,rfl,rfl,⟨by omega,by omega,by omega,trivial⟩,fun v=>by omega⟩
  rw [(oLcmp ev45_2).2.2] at c46_2
  refine Ya 50 K d11_49 <|Yb 52 K d11_50 ?_
  refine Yg 0 55 K d11_52 U4 <|Ya 56 K d11_55 <|Yb 58 K d11_56 ?_
  refine Yg (-1 : Int32) 61 K d11_58 U5 <|Yt 10 0 62 K d11_61 ?_
  refine Yp 10 1 63 K d11_62 rfl oL1 (S10 T1) <|Yi 34 K d11_63 <|Yb 36 K d11_34 ?_
  refine Ys 66 39 K d11_36 <|Ya 67 K d11_66 <|Yb 69 K d11_67 ?_
  refine Yg (-1 : Int32) 72 K d11_69 U4 <|Yo 74 K d11_72 ?_
  refine Yp 10 0 75 K d11_74 rfl oL0 (S10 T0) ?_
  refine Yg (-1 : Int32) 78 K d11_75 U6 <|Yi 19 K d11_78 <|Yb 21 K d11_19 ?_
  refine Ys 81 24 K d11_21 <|Ye 82 K d11_81 <|Ya 83 K d11_82 <|Yf 2 2 84 K d11_83 ?_
  refine Ym 4 85 K d11_84 ?_
  exact Yq K d11_85 ⟨_,rfl,_,_,_,_,rfl,rfl,⟨by omega,by omega,by omega,trivial⟩,fun v=>by omega⟩
 rw [(oLcmp ev45).2.2] at c46
 refine Ya 50 K d11_49 <|Yb 52 K d11_50 ?_
 refine Yg 2 55 K d11_52 U4 <|Ya 56 K d11_55 <|Yb 58 K d11_56 ?_
 refine Yg 0 61 K d11_58 U5 <|Yt 10 1 62 K d11_61 ?_
 refine Yp 10 3 63 K d11_62 rfl oL3 (S10 T3) <|Yi 34 K d11_63 <|Yb 36 K d11_34 ?_
 refine Yw 66 39 K d11_36 <|Ya 40 K d11_39 <|Yb 42 K d11_40 <|Yt 10 0 43 K d11_42 <|Yo 45 K d11_43 ?_
 obtain ⟨v45_1,ev45_1⟩:=oE (XT.cmpL g0 c1 : Int32)
 refine Y6 46 K d11_45 ev45_1 ?_
 refine Y2 66 49 K d11_46 (fun c46_1=>?_) (fun c46_1=>?_)
 ·rw [(oLcmp ev45_1).2.2] at c46_1
  refine Ya 67 K d11_66 <|Yb 69 K d11_67 ?_
  refine Yg 1 72 K d11_69 U4 <|Yo 74 K d11_72 ?_
  refine Yp 10 2 75 K d11_74 rfl oL2 (S10 T2) ?_
  refine Yg 0 78 K d11_75 U6 <|Yi 19 K d11_78 <|Yb 21 K d11_19 ?_
  refine Yw 81 24 K d11_21 <|Ya 25 K d11_24 <|Yb 27 K d11_25 <|Yn 2 0 28 K d11_27 <|Ye 29 K d11_28 ?_
  refine Yk [.int y0,.int 2] [] 0 0 0 32 K (hw 88) (hw 89) (hw 86) (hw 90) (own_of @hw (by omega) (by decide)) (lenOf pd_2 rfl) d11_29 ?_
  rintro _ _ ⟨c0,rfl,tc0,rfl⟩
  simp only [Int32.reduceToInt] at tc0
  refine Gf #[.val (.ref b10),.val (.int 2),.val (.ref b2),.val (.int 2),.val (.int 1),.val (.int 0),.val (.int 0),.val (.long c0),.second] 34 K d11_32 <|Yb 36 K d11_34 ?_
  refine Yw 66 39 K d11_36 <|Ya 40 K d11_39 <|Yb 42 K d11_40 <|Yt 10 0 43 K d11_42 <|Yo 45 K d11_43 ?_
  obtain ⟨v45_2,ev45_2⟩:=oE (XT.cmpL g0 c0 : Int32)
  refine Y6 46 K d11_45 ev45_2 ?_
  refine Y2 66 49 K d11_46 (fun c46_2=>?_) (fun c46_2=>?_)
  ·rw [(oLcmp ev45_2).2.2] at c46_2
   refine Ya 67 K d11_66 <|Yb 69 K d11_67 ?_
   refine Yg 0 72 K d11_69 U4 <|Yo 74 K d11_72 ?_
   refine Yp 10 1 75 K d11_74 rfl oL1 (S10 T1) ?_
   refine Yg (-1 : Int32) 78 K d11_75 U6 <|Yi 19 K d11_78 <|Yb 21 K d11_19 ?_
   refine Ys 81 24 K d11_21 <|Ye 82 K d11_81 <|Ya 83 K d11_82 <|Yf 2 2 84 K d11_83 ?_
   refine Ym 4 85 K d11_84 ?_
   exact Yq K d11_85 ⟨_,rfl,_,_,_,_,rfl,rfl,⟨by omega,by omega,by omega,trivial⟩,fun v=>by omega⟩
  rw [(oLcmp ev45_2).2.2] at c46_2
  refine Ya 50 K d11_49 <|Yb 52 K d11_50 ?_
  refine Yg 0 55 K d11_52 U4 <|Ya 56 K d11_55 <|Yb 58 K d11_56 ?_
  refine Yg (-1 : Int32) 61 K d11_58 U5 <|Yt 10 0 62 K d11_61 ?_
  refine Yp 10 1 63 K d11_62 rfl oL1 (S10 T1) <|Yi 34 K d11_63 <|Yb 36 K d11_34 ?_
  refine Ys 66 39 K d11_36 <|Ya 67 K d11_66 <|Yb 69 K d11_67 ?_
  refine Yg (-1 : Int32) 72 K d11_69 U4 <|Yo 74 K d11_72 ?_
  refine Yp 10 0 75 K d11_74 rfl oL0 (S10 T0) ?_
  refine Yg (-1 : Int32) 78 K d11_75 U6 <|Yi 19 K d11_78 <|Yb 21 K d11_19 ?_
  refine Ys 81 24 K d11_21 <|Ye 82 K d11_81 <|Ya 83 K d11_82 <|Yf 2 2 84 K d11_83 ?_
  refine Ym 4 85 K d11_84 ?_
  exact Yq K d11_85 ⟨_,rfl,_,_,_,_,rfl,rfl,⟨by omega,by omega,by omega,trivial⟩,fun v=>by omega⟩
 rw [(oLcmp ev45_1).2.2] at c46_1
 refine Ya 50 K d11_49 <|Yb 52 K d11_50 ?_
 refine Yg 1 55 K d11_52 U4 <|Ya 56 K d11_55 <|Yb 58 K d11_56 ?_
 refine Yg (-1 : Int32) 61 K d11_58 U5 <|Yt 10 0 62 K d11_61 ?_
 refine Yp 10 2 63 K d11_62 rfl oL2 (S10 T2) <|Yi 34 K d11_63 <|Yb 36 K d11_34 ?_
 refine Ys 66 39 K d11_36 <|Ya 67 K d11_66 <|Yb 69 K d11_67 ?_
 refine Yg 0 72 K d11_69 U4 <|Yo 74 K d11_72 ?_
 refine Yp 10 1 75 K d11_74 rfl oL1 (S10 T1) ?_
 refine Yg 0 78 K d11_75 U6 <|Yi 19 K d11_78 <|Yb 21 K d11_19 ?_
 refine Yw 81 24 K d11_21 <|Ya 25 K d11_24 <|Yb 27 K d11_25 <|Yn 2 0 28 K d11_27 <|Ye 29 K d11_28 ?_
 refine Yk [.int y0,.int 2] [] 0 0 0 32 K (hw 88) (hw 89) (hw 86) (hw 90) (own_of @hw (by omega) (by decide)) (lenOf pd_2 rfl) d11_29 ?_
 rintro _ _ ⟨c0,rfl,tc0,rfl⟩
 simp only [Int32.reduceToInt] at tc0
 refine Gf #[.val (.ref b10),.val (.int 2),.val (.ref b2),.val (.int 2),.val (.int 0),.val (.int (-1)),.val (.int 0),.val (.long c0),.second] 34 K d11_32 <|Yb 36 K d11_34 ?_
 refine Ys 66 39 K d11_36 <|Ya 67 K d11_66 <|Yb 69 K d11_67 ?_
 refine Yg (-1 : Int32) 72 K d11_69 U4 <|Yo 74 K d11_72 ?_
 refine Yp 10 0 75 K d11_74 rfl oL0 (S10 T0) ?_
 refine Yg (-1 : Int32) 78 K d11_75 U6 <|Yi 19 K d11_78 <|Yb 21 K d11_19 ?_
 refine Ys 81 24 K d11_21 <|Ye 82 K d11_81 <|Ya 83 K d11_82 <|Yf 2 2 84 K d11_83 ?_
 refine Ym 4 85 K d11_84 ?_
 exact Yq K d11_85 ⟨_,rfl,_,_,_,_,rfl,rfl,⟨by omega,by omega,by omega,trivial⟩,fun v=>by omega⟩
theorem own_add3_2_112 (hw : oHw a0 Z) {D0 D1 D9 D11 D12 D13 : oDsc} {f_dl f_wi f_cc f_rc f_hd f_ea : Value} {g0 g1 : Int64} {u0 u1 : Int32} (hu0 : 1≤u0.toInt∧u0.toInt≤100000) (hu1 : 1≤u1.toInt∧u1.toInt≤100000) (hu0u1 : u0.toInt < u1.toInt) (hch : oCh [g0,g1]) (hne00 : g0.toInt ≠ u0.toInt * 4294967296 + 2) (hne01 : g0.toInt ≠ u1.toInt * 4294967296 + 2) (hne10 : g1.toInt ≠ u0.toInt * 4294967296 + 2) (hne11 : g1.toInt ≠ u1.toInt * 4294967296 + 2) :
  oCtr l Z h0 [] nM29 prog_7_method_3_code 5 none (oR 2 3 24 90) #[.ref b3,.int 2,.ref b2] [(b0,D0),(b1,D1),(b2,.inl (.int,[.int u0,.int u1])),(b3,oP b10 b13 b11 b12 b4 b5 b6 b7 b8 b9 (.int 0) .null (.int 2) (.int 2) f_dl f_wi f_cc f_rc f_hd f_ea),(b4,.inl (.boolean,[.int 1,.int 1,.int 0])),(b5,.inl (.int,[.int 0,.int 1,.int 0])),(b6,.inl (.int,[.int 2147483647,.int 2147483647,.int 2147483647])),(b7,.inl (.int,[.int 0,.int 1,.int 0])),(b8,.inl (.array .int,[.null,.null,.null])),(b9,D9),(b10,.inl (.long,[.long g0,.long g1])),(b11,D11),(b12,D12),(b13,D13)] (oVoid fun d=>∃ (b10' b11' b12' : Addr) (z0 z1 z2 z3 : Int64),d=[(b0,D0),(b1,D1),(b2,.inl (.int,[.int u0,.int u1])),(b3,oP b10' b13 b11' b12' b4 b5 b6 b7 b8 b9 (.int 1) (.ref b2) (.int 3) (.int 4) f_dl (.int 0) f_cc f_rc f_hd f_ea),(b4,.inl (.boolean,[.int 1,.int 1,.int 1])),(b5,.inl (.int,[.int 0,.int 1,.int 2])),(b6,.inl (.int,[.int 2147483647,.int 2147483647,.int 0])),(b7,.inl (.int,[.int 2,.int 1,.int 0])),(b8,.inl (.array .int,[.ref b2,.null,.null])),(b9,D9),(b10',.inl (.long,[.long z0,.long z1,.long z2,.long z3])),(b11',.inl (.long,[.long 0,.long 0,.long 0,.long 0])),(b12',.inl (.int,[.int 0,.int 0,.int 0,.int 0])),(b13,D13)]∧oCh [z0,z1,z2,z3]∧∀ v : Int,(v=z0.toInt∨v=z1.toInt∨v=z2.toInt∨v=z3.toInt) ↔ ((v=g0.toInt∨v=g1.toInt)∨(v=u0.toInt * 4294967296 + 2∨v=u1.toInt * 4294967296 + 2))):=by
 refine oCo #[.val (.ref b3),.val (.int 2),.val (.ref b2),.unset,.unset] ?_
 intro p e s m below meth c K
 refine Ya 1 K d8_0 <|Yc 3 6 4 K (hw 32) d8_1 <|Ye 5 K d8_4 <|Ya 6 K d8_5 <|Yc 3 10 9 K (hw 57) d8_6 ?_
 refine Yr 6 2 10 K d8_9 rfl (S6 T2) <|Ya 11 K d8_10 <|Yc 3 7 14 K (hw 39) d8_11 <|Ya 15 K d8_14 <|Yc 3 10 18 K (hw 57) d8_15 <|Ye 19 K d8_18 ?_
 refine Yr 7 0 20 K d8_19 rfl (S7 T0) <|Ya 21 K d8_20 <|Yc 3 8 24 K (hw 43) d8_21 <|Ya 25 K d8_24 <|Yc 3 10 28 K (hw 57) d8_25 <|Ya 29 K d8_28 ?_
 refine Go 8 2 0 30 K d8_29 rfl (S8 T0) <|Ya 31 K d8_30 ?_
 refine Yv 32 K d8_31 <|Yc 3 10 35 K (hw 57) d8_32 <|Yd 1 36 K d8_35 ?_
 refine Ym 1 37 K d8_36 ?_
 refine Yl 3 10 .int 40 K (hw 57) (Or.inl (hw 58)) (hw 10) (oAp_0 @hw) d8_37 rfl rfl (P3 F10) <|Ya 41 K d8_40 <|Yc 3 4 44 K (hw 28) d8_41 <|Ye 45 K d8_44 <|Gn 4 2 46 K d8_45 ?_
 refine Gc 149 49 K d8_46 <|Ya 50 K d8_49 <|Yc 3 4 53 K (hw 28) d8_50 <|Ye 54 K d8_53 <|Yd 1 55 K d8_54 ?_
 refine Gy 4 2 (.int (1 : Int32)) 56 K d8_55 rfl (S4 T2) <|Ya 57 K d8_56 <|Yc 3 5 60 K (hw 30) d8_57 <|Ya 61 K d8_60 ?_
 refine Yv 62 K d8_61 <|Yc 3 12 65 K (hw 61) d8_62 ?_
 refine Gg 66 K d8_65 <|Yd 1 67 K d8_66 ?_
 refine Ym 3 68 K d8_67 ?_
 refine Yl 3 12 .int 71 K (hw 61) (Or.inl (hw 62)) (hw 10) (oAp_0 @hw) d8_68 rfl rfl (P3 F12) <|Ye 72 K d8_71 ?_
 refine Yr 5 2 73 K d8_72 rfl (S5 T2) <|Ya 74 K d8_73 <|Yc 3 13 77 K (hw 63) d8_74 <|Ya 78 K d8_77 <|Yf 2 2 79 K d8_78 ?_
 refine Ym 4 80 K d8_79 ?_
 refine Yz 81 K d8_80 U3 <|Ya 82 K d8_81 <|Yc 3 0 85 K (hw 19) d8_82 <|Yf 10 2 86 K d8_85 <|Ye 87 K d8_86 ?_
 refine Yy 132 90 K d8_87 <|Ye 91 K d8_90 <|Yd 2 92 K d8_91 <|Ya 93 K d8_92 <|Yc 3 0 96 K (hw 19) d8_93 <|Yf 10 2 97 K d8_96 ?_
 refine Gq 4 98 K d8_97 ?_
 refine Yk [.int 4,.int 4] [] 0 0 0 101 K (hw 73) (hw 6) (hw 7) (hw 8) (own_max @hw) (lenOf pd_9 rfl) d8_98 ?_
 rintro _ _ ⟨mz,rfl,hmz,rfl⟩
 obtain rfl : mz=(4 : Int32):=oEq32.mpr (hmz.trans (by decide))
 refine Yj 103 K d8_101 U4 <|Ya 104 K d8_103 <|Ya 105 K d8_104 <|Yc 3 0 108 K (hw 19) d8_105 <|Yb 110 K d8_108 ?_
 refine Yk [.ref b10,.int 4] [.ref b3] 1 1 4 113 K (hw 74) (hw 75) (hw 37) (hw 76) (own_copy_2_4 @hw) (lenOf pd_13 rfl) d8_110 ?_
 rintro _ _ ⟨b14,rfl,rfl⟩
 refine Yl 3 0 (.array .long) 116 K (hw 19) (Or.inl (hw 20)) (hw 10) (oAp_0 @hw) d8_113 rfl rfl (P3 F0) <|Ya 117 K d8_116 <|Yb 119 K d8_117 ?_
 refine Y3 4 2 8 121 K (hw 18) d8_119 (N15 (.inl (.long,[.long 0,.long 0,.long 0,.long 0]))) ?_
 intro a119 ha119
 refine Yl 3 2 (.array .long) 124 K (hw 23) (Or.inl (hw 24)) (hw 10) (oAp_0 @hw) d8_121 rfl rfl (P3 F2) <|Ya 125 K d8_124 <|Yb 127 K d8_125 ?_
 refine Y3 4 3 12 129 K (hw 4) d8_127 (N16 (.inl (.int,[.int 0,.int 0,.int 0,.int 0]))) ?_
 intro a127 ha127
 refine Yl 3 3 (.array .int) 132 K (hw 25) (Or.inl (hw 26)) (hw 10) (oAp_0 @hw) d8_129 rfl rfl (P3 F3) ?_
 refine oPk1 ?_
 refine Ya 133 K d8_132 <|Ya 134 K d8_133 <|Yc 3 0 137 K (hw 19) d8_134 <|Ya 138 K d8_137 <|Yc 3 13 141 K (hw 63) d8_138 <|Ya 142 K d8_141 <|Ye 143 K d8_142 ?_
 refine Yk [.ref b14,.int 2,.ref b2,.int 2] [.ref b3] 1 3 12 146 K (hw 84) (hw 85) (hw 86) (hw 87) (own_aw_2_2_2 @hw (by omega) (by omega) (by omega) hch hne00 hne01 hne10 hne11) (lenOf pd_14 rfl) d8_143 ?_
 rintro _ _ ⟨z0,z1,z2,z3,rfl,rfl,hz1,hz2⟩
 refine Yl 3 13 .int 149 K (hw 63) (Or.inl (hw 64)) (hw 10) (oAp_0 @hw) d8_146 rfl rfl (P3 F13) <|Ya 150 K d8_149 <|Yc 3 11 153 K (hw 59) d8_150 ?_
 refine Gw 168 K d8_153 <|Ya 169 K d8_168 <|Ya 170 K d8_169 ?_
 refine Yl 3 11 (.array .int) 173 K (hw 59) (Or.inl (hw 60)) (hw 10) (oAp_0 @hw) d8_170 rfl rfl (P3 F11) <|Ya 174 K d8_173 <|Yd 0 175 K d8_174 ?_
 refine Yl 3 15 .int 178 K (hw 91) (Or.inl (hw 92)) (hw 10) (oAp_0 @hw) d8_175 rfl rfl (P3 F15) ?_
 exact Ga K d8_178 ⟨rfl,_,_,_,_,_,_,_,rfl,hz1,hz2⟩
theorem own_fillF_2_2 (hw : oHw a0 Z) {D0 D1 D2 D3 D4 D5 D6 D7 D8 D9 D10 D11 D12 : oDsc} {e0 e1 : Int32} :
  oCtr l Z h0 [] nM30 jdk_65_method_104_code 5 none (oR 1 0 0 24) #[.ref b13,.int 0,.int 2,.int 0] [(b0,D0),(b1,D1),(b2,D2),(b3,D3),(b4,D4),(b5,D5),(b6,D6),(b7,D7),(b8,D8),(b9,D9),(b10,D10),(b11,D11),(b12,D12),(b13,.inl (.int,[.int e0,.int e1]))] (oVoid fun d=>d=[(b0,D0),(b1,D1),(b2,D2),(b3,D3),(b4,D4),(b5,D5),(b6,D6),(b7,D7),(b8,D8),(b9,D9),(b10,D10),(b11,D11),(b12,D12),(b13,.inl (.int,[.int 0,.int 0]))]):=by
 refine oCo #[.val (.ref b13),.val (.int 0),.val (.int 2),.val (.int 0),.unset] ?_
 intro p e s m below meth c K
 refine Ya 1 K d15_0 <|Yf 13 2 2 K d15_1 <|Ye 3 K d15_2 <|Ye 4 K d15_3 ?_
 refine Gu [.int 2,.int 0,.int 2] [] 0 0 0 7 K (hw 105) (hw 106) (hw 37) (hw 107) (own_rc @hw (by decide) (by decide) (by decide)) (lenOf pd_0 rfl) d15_4 ?_
 rintro _ rfl
 refine Ye 8 K d15_7 ?_
 refine Yj 10 K d15_8 U4 <|Yb 12 K d15_10 <|Ye 13 K d15_12 ?_
 refine Yy 27 16 K d15_13 <|Ya 17 K d15_16 <|Yb 19 K d15_17 <|Ye 20 K d15_19 ?_
 refine Yr 13 0 21 K d15_20 rfl (S13 T0) ?_
 refine Yg 1 24 K d15_21 U4 <|Yi 10 K d15_24 <|Yb 12 K d15_10 <|Ye 13 K d15_12 ?_
 refine Yy 27 16 K d15_13 <|Ya 17 K d15_16 <|Yb 19 K d15_17 <|Ye 20 K d15_19 ?_
 refine Yr 13 1 21 K d15_20 rfl (S13 T1) ?_
 refine Yg 2 24 K d15_21 U4 <|Yi 10 K d15_24 <|Yb 12 K d15_10 <|Ye 13 K d15_12 ?_
 refine Y8 27 16 K d15_13 ?_
 exact Ga K d15_27 ⟨rfl,rfl⟩
theorem own_widen1_2_0 (hw : oHw a0 Z) {D1 D2 D4 D5 D6 D7 D9 D10 D11 D12 : oDsc} {f_mc f_cn f_dl f_cc f_rc f_hd f_ea : Value} {q1 q2 : Value} {y0 y1 : Int32} (hy0 : 1≤y0.toInt∧y0.toInt≤100000) (hy1 : 1≤y1.toInt∧y1.toInt≤100000) (hy0y1 : y0.toInt < y1.toInt) :
  oCtr l Z h0 [] nM31 prog_7_method_7_code 3 none (oR 3 1 2 60) #[.ref b3] [(b0,.inl (.int,[.int y0,.int y1])),(b1,D1),(b2,D2),(b3,oP b10 b13 b11 b12 b4 b5 b6 b7 b8 b9 (.int 1) (.ref b0) f_mc f_cn f_dl (.int 0) f_cc f_rc f_hd f_ea),(b4,D4),(b5,D5),(b6,D6),(b7,D7),(b8,.inl (.array .int,[.ref b0,q1,q2])),(b9,D9),(b10,D10),(b11,D11),(b12,D12),(b13,.inl (.int,[]))] (oVoid fun d=>∃ b13' : Addr,d=[(b0,.inl (.int,[.int y0,.int y1])),(b1,D1),(b2,D2),(b3,oP b10 b13' b11 b12 b4 b5 b6 b7 b8 b9 (.int 1) (.ref b0) f_mc f_cn f_dl (.int 1) f_cc f_rc f_hd f_ea),(b4,D4),(b5,D5),(b6,D6),(b7,D7),(b8,.inl (.array .int,[.ref b0,q1,q2])),(b9,D9),(b10,D10),(b11,D11),(b12,D12),(b13',.inl (.int,[.int 0,.int 0]))]):=by
 refine oCo #[.val (.ref b3),.unset,.unset] ?_
 intro p e s m below meth c K
 refine Ya 1 K d14_0 <|Yc 3 15 4 K (hw 91) d14_1 ?_
 refine Gc 45 7 K d14_4 <|Ya 8 K d14_7 <|Yc 3 1 11 K (hw 21) d14_8 <|Yf 13 0 12 K d14_11 <|Ya 13 K d14_12 <|Yc 3 11 16 K (hw 59) d14_13 <|Yf 0 2 17 K d14_16 ?_
 refine Yy 31 20 K d14_17 <|Ya 21 K d14_20 <|Ya 22 K d14_21 <|Yc 3 11 25 K (hw 59) d14_22 <|Yf 0 2 26 K d14_25 ?_
 refine Y3 2 1 2 28 K (hw 4) d14_26 (N14 (.inl (.int,[.int 0,.int 0]))) ?_
 intro a26 ha26
 refine Yl 3 1 (.array .int) 31 K (hw 21) (Or.inl (hw 22)) (hw 10) (oAp_0 @hw) d14_28 rfl rfl (P3 F1) ?_
 refine oPk2 ?_
 refine Ya 32 K d14_31 <|Yc 3 1 35 K (hw 21) d14_32 <|Yd 0 36 K d14_35 <|Ya 37 K d14_36 <|Yc 3 11 40 K (hw 59) d14_37 <|Yf 0 2 41 K d14_40 <|Yd 0 42 K d14_41 ?_
 refine Gu [.ref a26,.int 0,.int 2,.int 0] [] 0 1 2 45 K (hw 102) (hw 103) (hw 37) (hw 104) (own_fillF_2_2 @hw) (lenOf pd_16 rfl) d14_42 ?_
 rintro _ rfl
 refine Ya 46 K d14_45 <|Yc 3 15 49 K (hw 91) d14_46 <|Ya 50 K d14_49 <|Yc 3 10 53 K (hw 57) d14_50 ?_
 refine Yy 121 56 K d14_53 <|Ya 57 K d14_56 <|Yc 3 8 60 K (hw 43) d14_57 <|Ya 61 K d14_60 <|Yc 3 15 64 K (hw 91) d14_61 <|Gz 8 0 65 K d14_64 ?_
 refine Gl 66 K d14_65 U1 <|Yd 0 67 K d14_66 ?_
 refine Yz 68 K d14_67 U2 <|Ye 69 K d14_68 <|Ya 70 K d14_69 <|Yc 3 11 73 K (hw 59) d14_70 <|Yf 0 2 74 K d14_73 ?_
 refine Yy 108 77 K d14_74 <|Ya 78 K d14_77 <|Yc 3 1 81 K (hw 21) d14_78 <|Ye 82 K d14_81 <|Ya 83 K d14_82 <|Yc 3 1 86 K (hw 21) d14_83 <|Ye 87 K d14_86 <|Yn 13 0 88 K d14_87 <|Ya 89 K d14_88 <|Ya 90 K d14_89 <|Yc 3 11 93 K (hw 59) d14_90 <|Ye 94 K d14_93 ?_
 refine Yn 0 0 95 K d14_94 ?_
 refine Yk [.ref b0,.int y0] [.int 0,.int 0,.ref a26] 3 1 2 98 K (hw 108) (hw 109) (hw 11) (hw 110) (own_dist_2 @hw (ix:=0) rfl (by omega) (by omega) (by omega) (by omega)) (lenOf pd_8 rfl) d14_95 ?_
 rintro _ _ ⟨dz95,rfl,hdz95,rfl⟩
 obtain rfl : dz95=(0 : Int32):=oEq32.mpr ((hdz95 (by omega)).trans (by decide))
 refine Yk [.int 0,.int 0] [.int 0,.ref a26] 2 1 2 101 K (hw 73) (hw 6) (hw 7) (hw 8) (own_max @hw) (lenOf pd_9 rfl) d14_98 ?_
 rintro _ _ ⟨mz98,rfl,hmz98,rfl⟩
 obtain rfl : mz98=(0 : Int32):=oEq32.mpr (hmz98.trans (by decide))
 refine Yr 13 0 102 K d14_101 rfl (S13 T0) ?_
 refine Yg 1 105 K d14_102 U2 <|Yi 68 K d14_105 <|Ye 69 K d14_68 <|Ya 70 K d14_69 <|Yc 3 11 73 K (hw 59) d14_70 <|Yf 0 2 74 K d14_73 ?_
 refine Yy 108 77 K d14_74 <|Ya 78 K d14_77 <|Yc 3 1 81 K (hw 21) d14_78 <|Ye 82 K d14_81 <|Ya 83 K d14_82 <|Yc 3 1 86 K (hw 21) d14_83 <|Ye 87 K d14_86 <|Yn 13 1 88 K d14_87 <|Ya 89 K d14_88 <|Ya 90 K d14_89 <|Yc 3 11 93 K (hw 59) d14_90 <|Ye 94 K d14_93 ?_
 refine Yn 0 1 95 K d14_94 ?_
 refine Yk [.ref b0,.int y1] [.int 0,.int 1,.ref a26] 3 1 2 98 K (hw 108) (hw 109) (hw 11) (hw 110) (own_dist_2 @hw (ix:=0) rfl (by omega) (by omega) (by omega) (by omega)) (lenOf pd_8 rfl) d14_95 ?_
 rintro _ _ ⟨dz95_1,rfl,hdz95_1,rfl⟩
 obtain rfl : dz95_1=(0 : Int32):=oEq32.mpr ((hdz95_1 (by omega)).trans (by decide))
 refine Yk [.int 0,.int 0] [.int 1,.ref a26] 2 1 2 101 K (hw 73) (hw 6) (hw 7) (hw 8) (own_max @hw) (lenOf pd_9 rfl) d14_98 ?_
 rintro _ _ ⟨mz98_1,rfl,hmz98_1,rfl⟩
 obtain rfl : mz98_1=(0 : Int32):=oEq32.mpr (hmz98_1.trans (by decide))
 refine Yr 13 1 102 K d14_101 rfl (S13 T1) ?_
 refine Yg 2 105 K d14_102 U2 <|Yi 68 K d14_105 <|Ye 69 K d14_68 <|Ya 70 K d14_69 <|Yc 3 11 73 K (hw 59) d14_70 <|Yf 0 2 74 K d14_73 ?_
 refine Y8 108 77 K d14_74 <|Ya 109 K d14_108 ?_
 refine Yv 110 K d14_109 <|Yc 3 15 113 K (hw 91) d14_110 <|Yd 1 114 K d14_113 ?_
 refine Ym 1 115 K d14_114 ?_
 refine Yl 3 15 .int 118 K (hw 91) (Or.inl (hw 92)) (hw 10) (oAp_0 @hw) d14_115 rfl rfl (P3 F15) <|Yi 45 K d14_118 <|Ya 46 K d14_45 <|Yc 3 15 49 K (hw 91) d14_46 <|Ya 50 K d14_49 <|Yc 3 10 53 K (hw 57) d14_50 ?_
 refine Y8 121 56 K d14_53 ?_
 exact Ga K d14_121 ⟨rfl,_,rfl⟩
theorem own_find1_2_0 (hw : oHw a0 Z) {D1 D2 D4 D5 D7 : oDsc} {f_mc f_cc : Value} {q1 q2 : Value} {y0 y1 dl : Int32} (hy0 : 1 ≤ y0.toInt ∧ y0.toInt ≤ 100000) (hy1 : 1 ≤ y1.toInt ∧ y1.toInt ≤ 100000) (hy0y1 : y0.toInt < y1.toInt) {ocs : List Int64} {cnt : Nat} {cn : Int32} (hcn : cn.toInt = (cnt : Int)) (hO : oEnt ocs cnt 2) (hs : oSrt ocs cnt) (hol : ocs.length ≤ 1000) {wv : UInt64} {iw : Int} (hSt : Sta Z h0 "java/lang/StrictMath" "$assertionsDisabled" "Z" (.int 1)) (hwh : oWh wv) (hwv : FP.Core.DInt iw wv) (hiw : 1 ≤ iw) (hiw2 : iw ≤ 1000) {rds : List Int64} {cvs : List Value} {r0 r1 r2 : Int32} {ch : Int} {ti0 ti1 : Nat} {tx0 tx1 : Int64} (hdl : 1 ≤ dl.toInt ∧ dl.toInt ≤ 100000) (hrl : 1 ≤ rds.length ∧ rds.length ≤ 1000) (hcc : 1 < cvs.length) (hch : 0 ≤ ch ∧ ch ≤ 2) (hr0 : (r0.toInt = 0 ∧ ch = 0) ∨ (1 ≤ r0.toInt ∧ ch ≠ 0)) (hr1 : (r1.toInt = 0 ∧ ch = 1) ∨ (1 ≤ r1.toInt ∧ ch ≠ 1)) (hr2 : (r2.toInt = 0 ∧ ch = 2) ∨ (1 ≤ r2.toInt ∧ ch ≠ 2)) (ht0 : ti0 < cnt ∧ ocs[ti0]? = some tx0 ∧ tx0.toInt = y0.toInt * 4294967296 + ch) (ht1 : ti1 < cnt ∧ ocs[ti1]? = some tx1 ∧ tx1.toInt = y1.toInt * 4294967296 + ch) (hC : ∀ (i : Nat) (x : Int64) (p : Int), i < cnt → ocs[i]? = some x → x.toInt = p * 4294967296 + ch → p = y0.toInt ∨ p = y1.toInt) :
  oCtr l Z h0 [] nM32 prog_7_method_5_code 10 (some .int) (oR 6 1 2 124) #[.ref b3,.double wv] [(b0,.inl (.int,[.int y0,.int y1])),(b1,D1),(b2,D2),(b3,oP b10 b13 b11 b12 b4 b5 b6 b7 b8 b9 (.int 1) (.ref b0) f_mc (.int cn) (.int dl) (.int 0) f_cc (.int 0) (.int 0) (.int 0)),(b4,D4),(b5,D5),(b6,.inl (.int,[.int r0,.int r1,.int r2])),(b7,D7),(b8,.inl (.array .int,[.ref b0,q1,q2])),(b9,.inl (.int,[.int 0,.int 0,.int 0])),(b10,.inl (.long,(ocs.map Value.long))),(b11,.inl (.long,(rds.map Value.long))),(b12,.inl (.int,cvs)),(b13,.inl (.int,[]))] (oVal fun w d=>∃ (b13' : Addr) (rds' : List Int64),w=.int 2∧d=[(b0,.inl (.int,[.int y0,.int y1])),(b1,D1),(b2,D2),(b3,oP b10 b13' b11 b12 b4 b5 b6 b7 b8 b9 (.int 1) (.ref b0) f_mc (.int cn) (.int dl) (.int 1) (.int 2) (.int 0) (.int 0) (.int 0)),(b4,D4),(b5,D5),(b6,.inl (.int,[.int r0,.int r1,.int r2])),(b7,D7),(b8,.inl (.array .int,[.ref b0,q1,q2])),(b9,.inl (.int,[.int 0,.int 0,.int 0])),(b10,.inl (.long,(ocs.map Value.long))),(b11,.inl (.long,(rds'.map Value.long))),(b12,.inl (.int,((cvs.set 0 (.int 1)).set 1 (.int 1)))),(b13',.inl (.int,[.int 0,.int 0]))]∧rds'.length=rds.length):=by
 refine oCo #[.val (.ref b3),.val (.double wv),.second,.unset,.unset,.unset,.unset,.unset,.unset,.unset] ?_
 intro p e s m below meth c K
 refine Ya 1 K d13_0 ?_
 refine Ge b3 nM12 [] [] 0 1 2 4 K (hw 98) (hw 100) (hw 50) (hw 99) (hw 101) (hw 11) (own_widen1_2_0 @hw (by omega) (by omega) (by omega)) (lenOf pd_4 rfl) d13_1 ?_
 rintro _ ⟨b13',rfl⟩
 refine Y1 5 K d13_4 ?_
 refine oW.floorW (pc':=8) K @hw (hw 117) hSt hwh d13_5 rfl (by decide) (by decide) rfl ?_
 refine Ya 9 K d13_8 <|Yc 3 14 12 K (hw 65) d13_9 ?_
 obtain ⟨v12,ev12⟩:=oE (FP.i2d dl : UInt64)
 have dv12:=oI2D ev12
 refine Gh 13 K d13_12 ev12 ?_
 obtain ⟨md,emd⟩:=oE (Native.java_lang_Math.nans.pick64 false wv v12 : UInt64)
 have hmd : FP.Core.DInt (min iw dl.toInt) md:=by rw [emd]; exact oPick hwv dv12
 refine oW.minDW (pc':=16) K @hw (hw 140) (oNN hwv) (oNN dv12) emd d13_13 rfl (by decide) (by decide) (by decide) (by decide) rfl ?_
 obtain ⟨v16,ev16⟩:=oE (FP.d2i md : Int32)
 refine G3 17 K d13_16 ev16 ?_
 have tv16:=oD2I ev16 hmd (by omega)
 refine Yd 1 18 K d13_17 ?_
 obtain ⟨v18,ev18⟩:=oE (v16 - (1 : Int32) : Int32)
 refine Y9 19 K d13_18 ev18 ?_
 have tv18:=oIsub ev18 oOm
 try simp only [Int32.reduceToInt,Int64.reduceToInt] at tv18
 refine Yz 20 K d13_19 U3 <|Ya 21 K d13_20 <|Yd 0 22 K d13_21 ?_
 refine Yl 3 16 .int 25 K (hw 143) (Or.inl (hw 144)) (hw 10) (oAp_0 @hw) d13_22 rfl rfl (P3 F16) <|Yd 0 26 K d13_25 ?_
 refine Yj 28 K d13_26 U4 <|Yd 0 29 K d13_28 ?_
 refine Yj 31 K d13_29 U5 <|Yd 0 32 K d13_31 ?_
 refine Yj 34 K d13_32 U6 <|Yb 36 K d13_34 <|Ya 37 K d13_36 <|Yc 3 11 40 K (hw 59) d13_37 <|Yf 0 2 41 K d13_40 ?_
 refine Yy 139 44 K d13_41 <|Ya 45 K d13_44 <|Yc 3 11 48 K (hw 59) d13_45 <|Yb 50 K d13_48 <|Yn 0 0 51 K d13_50 ?_
 refine Yj 53 K d13_51 U7 <|Ya 54 K d13_53 <|Yc 3 1 57 K (hw 21) d13_54 <|Yb 59 K d13_57 <|Yn 13 0 60 K d13_59 <|Yd 1 61 K d13_60 ?_
 refine Ym 1 62 K d13_61 ?_
 refine G2 (4607182418800017408 : UInt64) 63 K d13_62 <|Y1 64 K d13_63 ?_
 obtain ⟨v64,ev64⟩:=oE (cmpValue (FP.dcmp (4607182418800017408 : UInt64) wv) .l : Int32)
 refine Gi 65 K d13_64 ev64 ?_
 refine oW.if_gt (pc':=133) (pc3:=68) K d13_65 (by decide) (by decide) rfl (fun q=>absurd ((oCmp (oDK 1 (by decide +kernel) (by decide)) hwv ev64).2.2.mp q) (by omega)) (fun c65=>?_)
 refine Yb 70 K d13_68 <|Yb 72 K d13_70 ?_
 refine oW.icmp_gt (pc':=78) (pc3:=75) K d13_72 (by decide) (by decide) rfl (fun c72=>?_) (fun q=>(by simp only [oLt32,oEq32,Int32.reduceToInt] at q; omega))
 refine Yb 80 K d13_78 ?_
 obtain ⟨v80,ev80⟩:=oE (y0.toInt64 : Int64)
 refine Gd 81 K d13_80 ev80 ?_
 have tv80 : v80.toInt=_:=oI2L ev80
 refine Ye 82 K d13_81 ?_
 obtain ⟨v82,ev82⟩:=oE (v18.toInt64 : Int64)
 refine Gd 83 K d13_82 ev82 ?_
 have tv82 : v82.toInt=_:=oI2L ev82
 obtain ⟨v83,ev83⟩:=oE (v80 + v82 : Int64)
 refine Gv 84 K d13_83 ev83 ?_
 have tv83:=oLadd ev83 oOm
 try simp only [Int32.reduceToInt,Int64.reduceToInt] at tv83
 refine Gx 87 K (hw 156) d13_84 ?_
 refine Yk [.long v83,.long 2147483647] [] 0 1 2 90 K (hw 157) (hw 158) (hw 7) (hw 159) (own_minJ @hw) (lenOf pd_17 rfl) d13_87 ?_
 rintro _ _ ⟨mj87,rfl,tmj87,rfl⟩
 rw [show (2147483647 : Int64).toInt=2147483647 by decide] at tmj87
 obtain ⟨v90,ev90⟩:=oE (mj87.toInt32 : Int32)
 refine Gs 91 K d13_90 ev90 ?_
 have tv90:=oL2I ev90 (by omega)
 refine Yj 93 K d13_91 U8 <|Ya 94 K d13_93 <|Yb 96 K d13_94 <|Yd 1 97 K d13_96 ?_
 refine Ym 1 98 K d13_97 <|Yb 100 K d13_98 <|Ye 101 K d13_100 ?_
 obtain ⟨v101,ev101⟩:=oE (y0 - v18 : Int32)
 refine Y9 102 K d13_101 ev101 ?_
 have tv101:=oIsub ev101 oOm
 try simp only [Int32.reduceToInt,Int64.reduceToInt] at tv101
 refine Yk [.int 1,.int v101] [.ref b3] 1 1 2 105 K (hw 73) (hw 6) (hw 7) (hw 8) (own_max @hw) (lenOf pd_9 rfl) d13_102 ?_
 rintro _ _ ⟨lo102,rfl,tlo102,rfl⟩
 try simp only [Int32.reduceToInt] at tlo102
 refine Yb 107 K d13_105 <|Y1 108 K d13_107 ?_
 refine Gk b3 nM12 [.int lo102,.int v90,.double wv] [] 0 1 2 111 K (hw 160) (hw 162) (hw 50) (hw 161) (hw 163) (hw 11) (own_rr1_0 @hw hcn hO hs hol hwv hiw (by omega) (by omega) hch hr0 hr1 hr2 (by omega) (by omega) ht0.1 ht0.2.1 ht0.2.2 (fun i x p a b c g=>by have:=hC i x p a b c; omega)) (lenOf pd_18 rfl) d13_108 ?_
 rintro _ _ ⟨rds0,z0,rfl,rfl,hl0,tz0⟩
 refine Yj 113 K d13_111 U9 <|Yb 115 K d13_113 ?_
 refine oW.if_ne (pc':=125) (pc3:=118) K d13_115 (by decide) (by decide) rfl (fun c115=>?_) (fun q=>(by simp only [oLt32,oEq32,Int32.reduceToInt] at q; omega))
 refine Yb 127 K d13_125 ?_
 refine Yj 129 K d13_127 U4 <|Yb 131 K d13_129 ?_
 refine Yj 133 K d13_131 U5 ?_
 refine Yg 1 136 K d13_133 U6 <|Yi 34 K d13_136 <|Yb 36 K d13_34 <|Ya 37 K d13_36 <|Yc 3 11 40 K (hw 59) d13_37 <|Yf 0 2 41 K d13_40 ?_
 refine Yy 139 44 K d13_41 <|Ya 45 K d13_44 <|Yc 3 11 48 K (hw 59) d13_45 <|Yb 50 K d13_48 <|Yn 0 1 51 K d13_50 ?_
 refine Yj 53 K d13_51 U7 <|Ya 54 K d13_53 <|Yc 3 1 57 K (hw 21) d13_54 <|Yb 59 K d13_57 <|Yn 13 1 60 K d13_59 <|Yd 1 61 K d13_60 ?_
 refine Ym 1 62 K d13_61 ?_
 refine G2 (4607182418800017408 : UInt64) 63 K d13_62 <|Y1 64 K d13_63 ?_
 obtain ⟨v64_1,ev64_1⟩:=oE (cmpValue (FP.dcmp (4607182418800017408 : UInt64) wv) .l : Int32)
 refine Gi 65 K d13_64 ev64_1 ?_
 refine oW.if_gt (pc':=133) (pc3:=68) K d13_65 (by decide) (by decide) rfl (fun q=>absurd ((oCmp (oDK 1 (by decide +kernel) (by decide)) hwv ev64_1).2.2.mp q) (by omega)) (fun c65_1=>?_)
 refine Yb 70 K d13_68 <|Yb 72 K d13_70 ?_
 refine oW.icmp_gt (pc':=78) (pc3:=75) K d13_72 (by decide) (by decide) rfl (fun c72_1=>?_) (fun q=>(by simp only [oLt32,oEq32,Int32.reduceToInt] at q; omega))
 refine Yb 80 K d13_78 ?_
 obtain ⟨v80_1,ev80_1⟩:=oE (y1.toInt64 : Int64)
 refine Gd 81 K d13_80 ev80_1 ?_
 have tv80_1 : v80_1.toInt=_:=oI2L ev80_1
 refine Ye 82 K d13_81 ?_
 obtain ⟨v82_1,ev82_1⟩:=oE (v18.toInt64 : Int64)
 refine Gd 83 K d13_82 ev82_1 ?_
 have tv82_1 : v82_1.toInt=_:=oI2L ev82_1
 obtain ⟨v83_1,ev83_1⟩:=oE (v80_1 + v82_1 : Int64)
 refine Gv 84 K d13_83 ev83_1 ?_
 have tv83_1:=oLadd ev83_1 oOm
 try simp only [Int32.reduceToInt,Int64.reduceToInt] at tv83_1
 refine Gx 87 K (hw 156) d13_84 ?_
 refine Yk [.long v83_1,.long 2147483647] [] 0 1 2 90 K (hw 157) (hw 158) (hw 7) (hw 159) (own_minJ @hw) (lenOf pd_17 rfl) d13_87 ?_
 rintro _ _ ⟨mj87_1,rfl,tmj87_1,rfl⟩
 rw [show (2147483647 : Int64).toInt=2147483647 by decide] at tmj87_1
 obtain ⟨v90_1,ev90_1⟩:=oE (mj87_1.toInt32 : Int32)
 refine Gs 91 K d13_90 ev90_1 ?_
 have tv90_1:=oL2I ev90_1 (by omega)
 refine Yj 93 K d13_91 U8 <|Ya 94 K d13_93 <|Yb 96 K d13_94 <|Yd 1 97 K d13_96 ?_
 obtain ⟨v97,ev97⟩:=oE (z0 + (1 : Int32) : Int32)
 refine Y0 98 K d13_97 ev97 ?_
 have tv97:=oIadd ev97 oOm
 try simp only [Int32.reduceToInt,Int64.reduceToInt] at tv97
 refine Yb 100 K d13_98 <|Ye 101 K d13_100 ?_
 obtain ⟨v101_1,ev101_1⟩:=oE (y1 - v18 : Int32)
 refine Y9 102 K d13_101 ev101_1 ?_
 have tv101_1:=oIsub ev101_1 oOm
 try simp only [Int32.reduceToInt,Int64.reduceToInt] at tv101_1
 refine Yk [.int v97,.int v101_1] [.ref b3] 1 1 2 105 K (hw 73) (hw 6) (hw 7) (hw 8) (own_max @hw) (lenOf pd_9 rfl) d13_102 ?_
 rintro _ _ ⟨lo102_1,rfl,tlo102_1,rfl⟩
 try simp only [Int32.reduceToInt] at tlo102_1
 refine Yb 107 K d13_105 <|Y1 108 K d13_107 ?_
 refine Gk b3 nM12 [.int lo102_1,.int v90_1,.double wv] [] 0 1 2 111 K (hw 160) (hw 162) (hw 50) (hw 161) (hw 163) (hw 11) (own_rr1_1 @hw hcn hO hs hol hwv hiw (by omega) (by rw [List.length_set]; omega) hch hr0 hr1 hr2 (by omega) (by omega) ht1.1 ht1.2.1 ht1.2.2 (fun i x p a b c g=>by have:=hC i x p a b c; omega)) (lenOf pd_18 rfl) d13_108 ?_
 rintro _ _ ⟨rds1,z1,rfl,rfl,hl1,tz1⟩
 refine Yj 113 K d13_111 U9 <|Yb 115 K d13_113 ?_
 refine oW.if_ne (pc':=125) (pc3:=118) K d13_115 (by decide) (by decide) rfl (fun c115_1=>?_) (fun q=>(by simp only [oLt32,oEq32,Int32.reduceToInt] at q; omega))
 refine Yb 127 K d13_125 ?_
 refine Yj 129 K d13_127 U4 <|Yb 131 K d13_129 ?_
 refine Yj 133 K d13_131 U5 ?_
 refine Yg 2 136 K d13_133 U6 <|Yi 34 K d13_136 <|Yb 36 K d13_34 <|Ya 37 K d13_36 <|Yc 3 11 40 K (hw 59) d13_37 <|Yf 0 2 41 K d13_40 ?_
 refine Y8 139 44 K d13_41 <|Ya 140 K d13_139 ?_
 refine Ge b3 nM12 [] [] 0 1 2 143 K (hw 145) (hw 147) (hw 50) (hw 146) (hw 148) (hw 11) (own_restart @hw (n:=0) (by decide) (by omega) oEnt.z oKp.z oKp.z (by decide)) (lenOf pd_4 rfl) d13_140 ?_
 rintro _ rfl
 refine Ya 144 K d13_143 <|Yc 3 16 147 K (hw 143) d13_144 ?_
 exact Yq K d13_147 ⟨_,rfl,_,_,rfl,rfl,hl1.trans hl0⟩
theorem own_widen2_11 (hw : oHw a0 Z) {D2 D4 D5 D6 D7 D9 D10 D11 D12 : oDsc} {f_mc f_cn f_dl f_cc f_rc f_hd f_ea : Value} {q2 : Value} {x0 y0 : Int32} (hx0 : 1≤x0.toInt∧x0.toInt≤100000) (hy0 : 1≤y0.toInt∧y0.toInt≤100000) :
  oCtr l Z h0 [] nM31 prog_7_method_7_code 3 none (oR 3 1 2 60) #[.ref b3] [(b0,.inl (.int,[.int x0])),(b1,.inl (.int,[.int y0])),(b2,D2),(b3,oP b10 b13 b11 b12 b4 b5 b6 b7 b8 b9 (.int 2) (.ref b0) f_mc f_cn f_dl (.int 0) f_cc f_rc f_hd f_ea),(b4,D4),(b5,D5),(b6,D6),(b7,D7),(b8,.inl (.array .int,[.ref b0,.ref b1,q2])),(b9,D9),(b10,D10),(b11,D11),(b12,D12),(b13,.inl (.int,[]))] (oVoid fun d=>∃ (b13' : Addr) (e0 : Int32),d=[(b0,.inl (.int,[.int x0])),(b1,.inl (.int,[.int y0])),(b2,D2),(b3,oP b10 b13' b11 b12 b4 b5 b6 b7 b8 b9 (.int 2) (.ref b0) f_mc f_cn f_dl (.int 2) f_cc f_rc f_hd f_ea),(b4,D4),(b5,D5),(b6,D6),(b7,D7),(b8,.inl (.array .int,[.ref b0,.ref b1,q2])),(b9,D9),(b10,D10),(b11,D11),(b12,D12),(b13',.inl (.int,[.int e0]))]):=by
 refine oCo #[.val (.ref b3),.unset,.unset] ?_
 intro p e s m below meth c K
 refine Ya 1 K d14_0 <|Yc 3 15 4 K (hw 91) d14_1 ?_
 refine Gc 45 7 K d14_4 <|Ya 8 K d14_7 <|Yc 3 1 11 K (hw 21) d14_8 <|Yf 13 0 12 K d14_11 <|Ya 13 K d14_12 <|Yc 3 11 16 K (hw 59) d14_13 <|Yf 0 1 17 K d14_16 ?_
 refine Yy 31 20 K d14_17 <|Ya 21 K d14_20 <|Ya 22 K d14_21 <|Yc 3 11 25 K (hw 59) d14_22 <|Yf 0 1 26 K d14_25 ?_
 refine Y3 1 1 1 28 K (hw 4) d14_26 (N14 (.inl (.int,[.int 0]))) ?_
 intro a26 ha26
 refine Yl 3 1 (.array .int) 31 K (hw 21) (Or.inl (hw 22)) (hw 10) (oAp_0 @hw) d14_28 rfl rfl (P3 F1) ?_
 refine oPk2 ?_
 refine Ya 32 K d14_31 <|Yc 3 1 35 K (hw 21) d14_32 <|Yd 0 36 K d14_35 <|Ya 37 K d14_36 <|Yc 3 11 40 K (hw 59) d14_37 <|Yf 0 1 41 K d14_40 <|Yd 0 42 K d14_41 ?_
 refine Gu [.ref a26,.int 0,.int 1,.int 0] [] 0 1 1 45 K (hw 102) (hw 103) (hw 37) (hw 104) (own_fillF_1_1 @hw) (lenOf pd_16 rfl) d14_42 ?_
 rintro _ rfl
 refine Ya 46 K d14_45 <|Yc 3 15 49 K (hw 91) d14_46 <|Ya 50 K d14_49 <|Yc 3 10 53 K (hw 57) d14_50 ?_
 refine Yy 121 56 K d14_53 <|Ya 57 K d14_56 <|Yc 3 8 60 K (hw 43) d14_57 <|Ya 61 K d14_60 <|Yc 3 15 64 K (hw 91) d14_61 <|Gz 8 0 65 K d14_64 ?_
 refine Gl 66 K d14_65 U1 <|Yd 0 67 K d14_66 ?_
 refine Yz 68 K d14_67 U2 <|Ye 69 K d14_68 <|Ya 70 K d14_69 <|Yc 3 11 73 K (hw 59) d14_70 <|Yf 0 1 74 K d14_73 ?_
 refine Yy 108 77 K d14_74 <|Ya 78 K d14_77 <|Yc 3 1 81 K (hw 21) d14_78 <|Ye 82 K d14_81 <|Ya 83 K d14_82 <|Yc 3 1 86 K (hw 21) d14_83 <|Ye 87 K d14_86 <|Yn 13 0 88 K d14_87 <|Ya 89 K d14_88 <|Ya 90 K d14_89 <|Yc 3 11 93 K (hw 59) d14_90 <|Ye 94 K d14_93 ?_
 refine Yn 0 0 95 K d14_94 ?_
 refine Yk [.ref b0,.int x0] [.int 0,.int 0,.ref a26] 3 1 1 98 K (hw 108) (hw 109) (hw 11) (hw 110) (own_dist_1 @hw (ix:=0) rfl (by omega) (by omega)) (lenOf pd_8 rfl) d14_95 ?_
 rintro _ _ ⟨dz95,rfl,hdz95,rfl⟩
 refine Yk [.int 0,.int dz95] [.int 0,.ref a26] 2 1 1 101 K (hw 73) (hw 6) (hw 7) (hw 8) (own_max @hw) (lenOf pd_9 rfl) d14_98 ?_
 rintro _ _ ⟨mz98,rfl,hmz98,rfl⟩
 refine Yr 13 0 102 K d14_101 rfl (S13 T0) ?_
 refine Yg 1 105 K d14_102 U2 <|Yi 68 K d14_105 <|Ye 69 K d14_68 <|Ya 70 K d14_69 <|Yc 3 11 73 K (hw 59) d14_70 <|Yf 0 1 74 K d14_73 ?_
 refine Y8 108 77 K d14_74 <|Ya 109 K d14_108 ?_
 refine Yv 110 K d14_109 <|Yc 3 15 113 K (hw 91) d14_110 <|Yd 1 114 K d14_113 ?_
 refine Ym 1 115 K d14_114 ?_
 refine Yl 3 15 .int 118 K (hw 91) (Or.inl (hw 92)) (hw 10) (oAp_0 @hw) d14_115 rfl rfl (P3 F15) <|Yi 45 K d14_118 <|Ya 46 K d14_45 <|Yc 3 15 49 K (hw 91) d14_46 <|Ya 50 K d14_49 <|Yc 3 10 53 K (hw 57) d14_50 ?_
 refine Yy 121 56 K d14_53 <|Ya 57 K d14_56 <|Yc 3 8 60 K (hw 43) d14_57 <|Ya 61 K d14_60 <|Yc 3 15 64 K (hw 91) d14_61 <|Gz 8 1 65 K d14_64 ?_
 refine Gl 66 K d14_65 U1 <|Yd 0 67 K d14_66 ?_
 refine Yz 68 K d14_67 U2 <|Ye 69 K d14_68 <|Ya 70 K d14_69 <|Yc 3 11 73 K (hw 59) d14_70 <|Yf 0 1 74 K d14_73 ?_
 refine Yy 108 77 K d14_74 <|Ya 78 K d14_77 <|Yc 3 1 81 K (hw 21) d14_78 <|Ye 82 K d14_81 <|Ya 83 K d14_82 <|Yc 3 1 86 K (hw 21) d14_83 <|Ye 87 K d14_86 <|Yn 13 0 88 K d14_87 <|Ya 89 K d14_88 <|Ya 90 K d14_89 <|Yc 3 11 93 K (hw 59) d14_90 <|Ye 94 K d14_93 ?_
 refine Yn 0 0 95 K d14_94 ?_
 refine Yk [.ref b1,.int x0] [.int mz98,.int 0,.ref a26] 3 1 1 98 K (hw 108) (hw 109) (hw 11) (hw 110) (own_dist_1 @hw (ix:=1) rfl (by omega) (by omega)) (lenOf pd_8 rfl) d14_95 ?_
 rintro _ _ ⟨dz95_1,rfl,hdz95_1,rfl⟩
 refine Yk [.int mz98,.int dz95_1] [.int 0,.ref a26] 2 1 1 101 K (hw 73) (hw 6) (hw 7) (hw 8) (own_max @hw) (lenOf pd_9 rfl) d14_98 ?_
 rintro _ _ ⟨mz98_1,rfl,hmz98_1,rfl⟩
 refine Yr 13 0 102 K d14_101 rfl (S13 T0) ?_
 refine Yg 1 105 K d14_102 U2 <|Yi 68 K d14_105 <|Ye 69 K d14_68 <|Ya 70 K d14_69 <|Yc 3 11 73 K (hw 59) d14_70 <|Yf 0 1 74 K d14_73 ?_
 refine Y8 108 77 K d14_74 <|Ya 109 K d14_108 ?_
 refine Yv 110 K d14_109 <|Yc 3 15 113 K (hw 91) d14_110 <|Yd 1 114 K d14_113 ?_
 refine Ym 2 115 K d14_114 ?_
 refine Yl 3 15 .int 118 K (hw 91) (Or.inl (hw 92)) (hw 10) (oAp_0 @hw) d14_115 rfl rfl (P3 F15) <|Yi 45 K d14_118 <|Ya 46 K d14_45 <|Yc 3 15 49 K (hw 91) d14_46 <|Ya 50 K d14_49 <|Yc 3 10 53 K (hw 57) d14_50 ?_
 refine Y8 121 56 K d14_53 ?_
 exact Ga K d14_121 ⟨rfl,_,_,rfl⟩
theorem own_find2_11 (hw : oHw a0 Z) {D2 D4 D5 D7 : oDsc} {f_mc f_cc : Value} {q2 : Value} {x0 y0 dl : Int32} (hx0 : 1 ≤ x0.toInt ∧ x0.toInt ≤ 100000) (hy0 : 1 ≤ y0.toInt ∧ y0.toInt ≤ 100000) {ocs : List Int64} {cnt : Nat} {cn : Int32} (hcn : cn.toInt = (cnt : Int)) (hO : oEnt ocs cnt 2) (hs : oSrt ocs cnt) (hol : ocs.length ≤ 1000) {wv : UInt64} {iw : Int} (hSt : Sta Z h0 "java/lang/StrictMath" "$assertionsDisabled" "Z" (.int 1)) (hwh : oWh wv) (hwv : FP.Core.DInt iw wv) (hiw : 1 ≤ iw) (hiw2 : iw ≤ 1000) {rds : List Int64} {cvs : List Value} (hdl : 1 ≤ dl.toInt ∧ dl.toInt ≤ 100000) (hrl : cnt ≤ rds.length ∧ rds.length ≤ 1000) (hcv : 1 ≤ cvs.length ∧ cvs.length ≤ 1000) :
  oCtr l Z h0 [] nM32 prog_7_method_5_code 10 (some .int) (oR 6 1 2 124) #[.ref b3,.double wv] [(b0,.inl (.int,[.int x0])),(b1,.inl (.int,[.int y0])),(b2,D2),(b3,oP b10 b13 b11 b12 b4 b5 b6 b7 b8 b9 (.int 2) (.ref b0) f_mc (.int cn) (.int dl) (.int 0) f_cc (.int 0) (.int 0) (.int 0)),(b4,D4),(b5,D5),(b6,.inl (.int,[.int 0,.int 1,.int 2147483647])),(b7,D7),(b8,.inl (.array .int,[.ref b0,.ref b1,q2])),(b9,.inl (.int,[.int 0,.int 0,.int 0])),(b10,.inl (.long,(ocs.map Value.long))),(b11,.inl (.long,(rds.map Value.long))),(b12,.inl (.int,cvs)),(b13,.inl (.int,[]))] (oVal fun w d=>∃ (b13' : Addr) (e0 : Int32) (rds' : List Int64) (cvs' : List Value) (cc' : Int32),w=.int cc'∧d=[(b0,.inl (.int,[.int x0])),(b1,.inl (.int,[.int y0])),(b2,D2),(b3,oP b10 b13' b11 b12 b4 b5 b6 b7 b8 b9 (.int 2) (.ref b0) f_mc (.int cn) (.int dl) (.int 2) (.int cc') (.int 0) (.int 0) (.int 0)),(b4,D4),(b5,D5),(b6,.inl (.int,[.int 0,.int 1,.int 2147483647])),(b7,D7),(b8,.inl (.array .int,[.ref b0,.ref b1,q2])),(b9,.inl (.int,[.int 0,.int 0,.int 0])),(b10,.inl (.long,(ocs.map Value.long))),(b11,.inl (.long,(rds'.map Value.long))),(b12,.inl (.int,cvs')),(b13',.inl (.int,[.int e0]))]∧rds'.length=rds.length∧cvs'.length=cvs.length):=by
 refine oCo #[.val (.ref b3),.val (.double wv),.second,.unset,.unset,.unset,.unset,.unset,.unset,.unset] ?_
 intro p e s m below meth c K
 refine Ya 1 K d13_0 ?_
 refine Ge b3 nM12 [] [] 0 1 2 4 K (hw 98) (hw 100) (hw 50) (hw 99) (hw 101) (hw 11) (own_widen2_11 @hw (by omega) (by omega)) (lenOf pd_4 rfl) d13_1 ?_
 rintro _ ⟨b13',e0,rfl⟩
 refine Y1 5 K d13_4 ?_
 refine oW.floorW (pc':=8) K @hw (hw 117) hSt hwh d13_5 rfl (by decide) (by decide) rfl ?_
 refine Ya 9 K d13_8 <|Yc 3 14 12 K (hw 65) d13_9 ?_
 obtain ⟨v12,ev12⟩:=oE (FP.i2d dl : UInt64)
 have dv12:=oI2D ev12
 refine Gh 13 K d13_12 ev12 ?_
 obtain ⟨md,emd⟩:=oE (Native.java_lang_Math.nans.pick64 false wv v12 : UInt64)
 have hmd : FP.Core.DInt (min iw dl.toInt) md:=by rw [emd]; exact oPick hwv dv12
 refine oW.minDW (pc':=16) K @hw (hw 140) (oNN hwv) (oNN dv12) emd d13_13 rfl (by decide) (by decide) (by decide) (by decide) rfl ?_
 obtain ⟨v16,ev16⟩:=oE (FP.d2i md : Int32)
 refine G3 17 K d13_16 ev16 ?_
 have tv16:=oD2I ev16 hmd (by omega)
 refine Yd 1 18 K d13_17 ?_
 obtain ⟨v18,ev18⟩:=oE (v16 - (1 : Int32) : Int32)
 refine Y9 19 K d13_18 ev18 ?_
 have tv18:=oIsub ev18 oOm
 try simp only [Int32.reduceToInt,Int64.reduceToInt] at tv18
 refine Yz 20 K d13_19 U3 <|Ya 21 K d13_20 <|Yd 0 22 K d13_21 ?_
 refine Yl 3 16 .int 25 K (hw 143) (Or.inl (hw 144)) (hw 10) (oAp_0 @hw) d13_22 rfl rfl (P3 F16) <|Yd 0 26 K d13_25 ?_
 refine Yj 28 K d13_26 U4 <|Yd 0 29 K d13_28 ?_
 refine Yj 31 K d13_29 U5 <|Yd 0 32 K d13_31 ?_
 refine Yj 34 K d13_32 U6 ?_
 refine oW.loop (F:=fun z : Int32 × Int32 × Int32 × Slot × Slot × Slot × Int32 × Int32 × Int32 × Int32 × Int32 × Int32 × Int32 × List Int64 × List Value=>∃ n' t : Nat,oRS z.2.2.2.2.2.2.2.2.2.2.2.2.2.1 n' z.2.2.2.2.2.2.2.1 z.2.2.2.2.2.2.2.2.2.1 z.2.2.2.2.2.2.2.2.2.2.1 z.2.2.2.2.2.2.2.2.2.2.2.1 z.2.2.2.2.2.2.2.2.2.2.2.2.1∧z.2.2.2.2.2.2.2.2.2.2.2.2.2.1.length=rds.length∧z.2.2.2.2.2.2.2.2.2.2.2.2.2.2.length=cvs.length∧n'≤t∧t≤cnt∧(∀ (i : Nat) (x : Int64),i < t→ocs[i]?=some x→x.toInt < (z.1.toInt + 1) * 4294967296)∧0≤z.1.toInt∧0≤z.2.2.1.toInt∧z.2.2.1.toInt≤1∧0≤z.2.2.2.2.2.2.1.toInt∧z.2.2.2.2.2.2.1.toInt≤z.2.2.1.toInt∧(z.2.2.1.toInt≤0→z.1.toInt≤x0.toInt + v18.toInt)∧oDead z.2.2.2.1∧oDead z.2.2.2.2.1∧oDead z.2.2.2.2.2.1) (mu:=fun z=>1 - z.2.2.1.toInt.toNat) (pcj:=34) (Lf:=fun z=>#[.val (.ref b3),.val (.double wv),.second,.val (.int v18),.val (.int z.1),.val (.int z.2.1),.val (.int z.2.2.1),z.2.2.2.1,z.2.2.2.2.1,z.2.2.2.2.2.1]) (Sf:=fun z=>[]) (dsf:=fun z=>[(b0,.inl (.int,[.int x0])),(b1,.inl (.int,[.int y0])),(b2,D2),(b3,oP b10 b13' b11 b12 b4 b5 b6 b7 b8 b9 (.int 2) (.ref b0) f_mc (.int cn) (.int dl) (.int 2) (.int z.2.2.2.2.2.2.1) (.int z.2.2.2.2.2.2.2.1) (.int z.2.2.2.2.2.2.2.2.1) (.int z.2.2.2.2.2.2.2.2.2.1)),(b4,D4),(b5,D5),(b6,.inl (.int,[.int 0,.int 1,.int 2147483647])),(b7,D7),(b8,.inl (.array .int,[.ref b0,.ref b1,q2])),(b9,.inl (.int,[(.int z.2.2.2.2.2.2.2.2.2.2.1),(.int z.2.2.2.2.2.2.2.2.2.2.2.1),(.int z.2.2.2.2.2.2.2.2.2.2.2.2.1)])),(b10,.inl (.long,(ocs.map Value.long))),(b11,.inl (.long,(z.2.2.2.2.2.2.2.2.2.2.2.2.2.1.map Value.long))),(b12,.inl (.int,z.2.2.2.2.2.2.2.2.2.2.2.2.2.2)),(b13',.inl (.int,[.int e0]))]) ?_ ((0 : Int32),(0 : Int32),(0 : Int32),(.unset : Slot),(.unset : Slot),(.unset : Slot),(0 : Int32),(0 : Int32),(0 : Int32),(0 : Int32),(0 : Int32),(0 : Int32),(0 : Int32),rds,cvs) (by dsimp only; have:=oTs; exact ⟨0,0,oRS.z,rfl,rfl,Nat.le_refl _,Nat.zero_le _,fun i x h=>absurd h (Nat.not_lt_zero _),by decide,by decide,by omega,by decide,by decide,fun _=>by omega,Or.inl rfl,Or.inl rfl,Or.inl rfl⟩)
 rintro ⟨bq,la,ix,s1,s2,s3,ccL,rcL,hdL,eaL,k0L,k1L,k2L,rdsL,cvsL⟩ hF34 IH34
 dsimp only at hF34 IH34 ⊢
 obtain ⟨n',t,h1,h2,h3,ht1,ht2,h6,h7,h8,h9,h10,h11,ha0,f1,f2,f3⟩:=hF34
 refine Yb 36 K d13_34 <|Ya 37 K d13_36 <|Yc 3 11 40 K (hw 59) d13_37 <|Yf 0 1 41 K d13_40 ?_
 refine Gm 139 44 K d13_41 (fun c41=>?_) (fun c41=>?_)
 ·simp only [oLt32,oEq32,Int32.reduceToInt] at c41
  refine Ya 140 K d13_139 ?_
  refine Ge b3 nM12 [] [] 0 1 2 143 K (hw 145) (hw 147) (hw 50) (hw 146) (hw 148) (hw 11) (own_restart @hw (n:=n') h1.1 (by omega) h1.2.2.2.1 h1.2.2.2.2.1 h1.2.2.2.2.2.1 h1.2.2.2.2.2.2) (lenOf pd_4 rfl) d13_140 ?_
  rintro _ rfl
  refine Ya 144 K d13_143 <|Yc 3 16 147 K (hw 143) d13_144 ?_
  exact Yq K d13_147 ⟨_,rfl,_,_,_,_,_,rfl,rfl,h2,h3⟩
 simp only [oLt32,oEq32,Int32.reduceToInt] at c41
 have hix : ix=0:=by simp only [oEq32,Int32.reduceToInt]; omega
 rcases hix with hix
 subst hix
 simp only [Int32.reduceToInt] at h8 h9 h10 h11 ha0
 refine Ya 45 K d13_44 <|Yc 3 11 48 K (hw 59) d13_45 <|Yb 50 K d13_48 <|Yn 0 0 51 K d13_50 ?_
 refine oW.istore (Ls':=#[.val (.ref b3),.val (.double wv),.second,.val (.int v18),.val (.int bq),.val (.int la),.val (.int 0),.val (.int x0),s2,s3]) (pc':=53) K d13_51 (oStoreDead rfl f1 rfl) rfl ?_
 refine Ya 54 K d13_53 <|Yc 3 1 57 K (hw 21) d13_54 <|Yb 59 K d13_57 <|Yn 13 0 60 K d13_59 <|Yd 1 61 K d13_60 ?_
 obtain ⟨v61,ev61⟩:=oE (e0 + (1 : Int32) : Int32)
 refine Y0 62 K d13_61 ev61 ?_
 obtain ⟨v62,ev62⟩:=oE (FP.i2d v61 : UInt64)
 have dv62:=oI2D ev62
 refine Gh 63 K d13_62 ev62 <|Y1 64 K d13_63 ?_
 obtain ⟨v64,ev64⟩:=oE (cmpValue (FP.dcmp v62 wv) .l : Int32)
 refine Gi 65 K d13_64 ev64 ?_
 refine Hg 133 68 K d13_65 (fun c65=>?_) (fun c65=>?_)
 ·refine Yg 1 136 K d13_133 U6 <|Yi 34 K d13_136 ?_
  exact IH34 (bq,la,(1 : Int32),(.val (.int x0) : Slot),(s2 : Slot),(s3 : Slot),ccL,rcL,hdL,eaL,k0L,k1L,k2L,rdsL,cvsL) (by dsimp only; have:=oTs; exact ⟨n',t,h1,h2,h3,ht1,ht2,h6,by omega,by omega,by omega,by omega,by omega,fun _=>by omega,Or.inr ⟨_,rfl⟩,f2,f3⟩) (by dsimp only; have:=oTs; omega)
 refine Yb 70 K d13_68 <|Yb 72 K d13_70 ?_
 refine Hd 78 75 K d13_72 (fun c72=>?_) (fun c72=>?_)
 ·simp only [oLt32,oEq32,Int32.reduceToInt] at c72
  refine Yb 80 K d13_78 ?_
  obtain ⟨v80,ev80⟩:=oE (x0.toInt64 : Int64)
  refine Gd 81 K d13_80 ev80 ?_
  have tv80 : v80.toInt=_:=oI2L ev80
  refine Ye 82 K d13_81 ?_
  obtain ⟨v82,ev82⟩:=oE (v18.toInt64 : Int64)
  refine Gd 83 K d13_82 ev82 ?_
  have tv82 : v82.toInt=_:=oI2L ev82
  obtain ⟨v83,ev83⟩:=oE (v80 + v82 : Int64)
  refine Gv 84 K d13_83 ev83 ?_
  have tv83:=oLadd ev83 oOm
  try simp only [Int32.reduceToInt,Int64.reduceToInt] at tv83
  refine Gx 87 K (hw 156) d13_84 ?_
  refine Yk [.long v83,.long 2147483647] [] 0 1 2 90 K (hw 157) (hw 158) (hw 7) (hw 159) (own_minJ @hw) (lenOf pd_17 rfl) d13_87 ?_
  rintro _ _ ⟨mj87,rfl,tmj87,rfl⟩
  rw [show (2147483647 : Int64).toInt=2147483647 by decide] at tmj87
  obtain ⟨v90,ev90⟩:=oE (mj87.toInt32 : Int32)
  refine Gs 91 K d13_90 ev90 ?_
  have tv90:=oL2I ev90 (by omega)
  refine oW.istore (Ls':=#[.val (.ref b3),.val (.double wv),.second,.val (.int v18),.val (.int bq),.val (.int la),.val (.int 0),.val (.int x0),.val (.int v90),s3]) (pc':=93) K d13_91 (oStoreDead rfl f2 rfl) rfl ?_
  refine Ya 94 K d13_93 <|Yb 96 K d13_94 <|Yd 1 97 K d13_96 ?_
  obtain ⟨v97,ev97⟩:=oE (bq + (1 : Int32) : Int32)
  refine Y0 98 K d13_97 ev97 ?_
  have tv97:=oIadd ev97 oOm
  try simp only [Int32.reduceToInt,Int64.reduceToInt] at tv97
  refine Yb 100 K d13_98 <|Ye 101 K d13_100 ?_
  obtain ⟨v101,ev101⟩:=oE (x0 - v18 : Int32)
  refine Y9 102 K d13_101 ev101 ?_
  have tv101:=oIsub ev101 oOm
  try simp only [Int32.reduceToInt,Int64.reduceToInt] at tv101
  refine Yk [.int v97,.int v101] [.ref b3] 1 1 2 105 K (hw 73) (hw 6) (hw 7) (hw 8) (own_max @hw) (lenOf pd_9 rfl) d13_102 ?_
  rintro _ _ ⟨lo102,rfl,tlo102,rfl⟩
  try simp only [Int32.reduceToInt] at tlo102
  refine Yb 107 K d13_105 <|Y1 108 K d13_107 ?_
  refine Gk b3 nM12 [.int lo102,.int v90,.double wv] [] 0 1 2 111 K (hw 160) (hw 162) (hw 50) (hw 161) (hw 163) (hw 11) (own_rrG @hw hcn hO hs hol h1 ⟨by omega,by omega⟩ ⟨by omega,by omega,by omega⟩ (by omega) (by omega) (by omega) ⟨t,ht1,ht2,fun i x h q=>by have:=h6 i x h q; omega⟩) (lenOf pd_18 rfl) d13_108 ?_
  rintro _ _ ⟨rds',cvs',rc',hd',ea',cc',k0',k1',k2',z,n2,rfl,rfl,hl1,hl2,hrs',hcase⟩
  rcases hcase with ⟨hz,hce,t2,ht1',ht2',ht3'⟩|⟨hz1,hz2,hce,hn2⟩
  ·subst hz
   subst hce
   refine oW.istore (Ls':=#[.val (.ref b3),.val (.double wv),.second,.val (.int v18),.val (.int bq),.val (.int la),.val (.int 0),.val (.int x0),.val (.int v90),.val (.int 0)]) (pc':=113) K d13_111 (oStoreDead rfl f3 rfl) rfl ?_
   refine Yb 115 K d13_113 ?_
   refine Gc 125 118 K d13_115 <|Yb 120 K d13_118 ?_
   refine Yj 122 K d13_120 U4 <|Yi 133 K d13_122 ?_
   refine Yg 1 136 K d13_133 U6 <|Yi 34 K d13_136 ?_
   exact IH34 (v90,la,(1 : Int32),(.val (.int x0) : Slot),(.val (.int v90) : Slot),(.val (.int 0) : Slot),ccL,rc',hd',ea',k0',k1',k2',rds',cvs') (by dsimp only; have:=oTs; exact ⟨n2,t2,hrs',hl1.trans h2,hl2.trans h3,ht1',ht2',ht3',by omega,by omega,by omega,by omega,by omega,fun _=>by omega,Or.inr ⟨_,rfl⟩,Or.inr ⟨_,rfl⟩,Or.inr ⟨_,rfl⟩⟩) (by dsimp only; have:=oTs; omega)
  refine oW.istore (Ls':=#[.val (.ref b3),.val (.double wv),.second,.val (.int v18),.val (.int bq),.val (.int la),.val (.int 0),.val (.int x0),.val (.int v90),.val (.int z)]) (pc':=113) K d13_111 (oStoreDead rfl f3 rfl) rfl ?_
  refine Yb 115 K d13_113 ?_
  refine oW.if_ne (pc':=125) (pc3:=118) K d13_115 (by decide) (by decide) rfl (fun c115=>?_) (fun q=>(by simp only [oLt32,oEq32,Int32.reduceToInt] at q; omega))
  refine Yb 127 K d13_125 ?_
  refine Yj 129 K d13_127 U4 <|Yb 131 K d13_129 ?_
  refine Yj 133 K d13_131 U5 ?_
  refine Yg 1 136 K d13_133 U6 <|Yi 34 K d13_136 ?_
  exact IH34 (z,z,(1 : Int32),(.val (.int x0) : Slot),(.val (.int v90) : Slot),(.val (.int z) : Slot),cc',rc',hd',ea',k0',k1',k2',rds',cvs') (by dsimp only; have:=oTs; exact ⟨n2,0,hrs',hl1.trans h2,hl2.trans h3,by omega,Nat.zero_le _,fun i x h=>absurd h (Nat.not_lt_zero _),by omega,by omega,by omega,by omega,by omega,fun _=>by omega,Or.inr ⟨_,rfl⟩,Or.inr ⟨_,rfl⟩,Or.inr ⟨_,rfl⟩⟩) (by dsimp only; have:=oTs; omega)
 simp only [oLt32,oEq32,Int32.reduceToInt] at c72
 refine Yi 133 K d13_75 ?_
 refine Yg 1 136 K d13_133 U6 <|Yi 34 K d13_136 ?_
 exact IH34 (bq,la,(1 : Int32),(.val (.int x0) : Slot),(s2 : Slot),(s3 : Slot),ccL,rcL,hdL,eaL,k0L,k1L,k2L,rdsL,cvsL) (by dsimp only; have:=oTs; exact ⟨n',t,h1,h2,h3,ht1,ht2,h6,by omega,by omega,by omega,by omega,by omega,fun _=>by omega,Or.inr ⟨_,rfl⟩,f2,f3⟩) (by dsimp only; have:=oTs; omega)
theorem own_widen1_1_1 (hw : oHw a0 Z) {D1 D2 D4 D5 D6 D7 D9 D10 D11 D12 : oDsc} {f_mc f_cn f_dl f_cc f_rc f_hd f_ea : Value} {q1 q2 : Value} {y0 e0 : Int32} (hy0 : 1≤y0.toInt∧y0.toInt≤100000) :
  oCtr l Z h0 [] nM31 prog_7_method_7_code 3 none (oR 3 1 2 60) #[.ref b3] [(b0,.inl (.int,[.int y0])),(b1,D1),(b2,D2),(b3,oP b10 b13 b11 b12 b4 b5 b6 b7 b8 b9 (.int 1) (.ref b0) f_mc f_cn f_dl (.int 0) f_cc f_rc f_hd f_ea),(b4,D4),(b5,D5),(b6,D6),(b7,D7),(b8,.inl (.array .int,[.ref b0,q1,q2])),(b9,D9),(b10,D10),(b11,D11),(b12,D12),(b13,.inl (.int,[.int e0]))] (oVoid fun d=>∃ b13' : Addr,d=[(b0,.inl (.int,[.int y0])),(b1,D1),(b2,D2),(b3,oP b10 b13' b11 b12 b4 b5 b6 b7 b8 b9 (.int 1) (.ref b0) f_mc f_cn f_dl (.int 1) f_cc f_rc f_hd f_ea),(b4,D4),(b5,D5),(b6,D6),(b7,D7),(b8,.inl (.array .int,[.ref b0,q1,q2])),(b9,D9),(b10,D10),(b11,D11),(b12,D12),(b13',.inl (.int,[.int 0]))]):=by
 refine oCo #[.val (.ref b3),.unset,.unset] ?_
 intro p e s m below meth c K
 refine Ya 1 K d14_0 <|Yc 3 15 4 K (hw 91) d14_1 ?_
 refine Gc 45 7 K d14_4 <|Ya 8 K d14_7 <|Yc 3 1 11 K (hw 21) d14_8 <|Yf 13 1 12 K d14_11 <|Ya 13 K d14_12 <|Yc 3 11 16 K (hw 59) d14_13 <|Yf 0 1 17 K d14_16 ?_
 refine Y8 31 20 K d14_17 <|Ya 32 K d14_31 <|Yc 3 1 35 K (hw 21) d14_32 <|Yd 0 36 K d14_35 <|Ya 37 K d14_36 <|Yc 3 11 40 K (hw 59) d14_37 <|Yf 0 1 41 K d14_40 <|Yd 0 42 K d14_41 ?_
 refine Gu [.ref b13,.int 0,.int 1,.int 0] [] 0 0 0 45 K (hw 102) (hw 103) (hw 37) (hw 104) (own_fillF_1_1 @hw) (lenOf pd_16 rfl) d14_42 ?_
 rintro _ rfl
 refine Ya 46 K d14_45 <|Yc 3 15 49 K (hw 91) d14_46 <|Ya 50 K d14_49 <|Yc 3 10 53 K (hw 57) d14_50 ?_
 refine Yy 121 56 K d14_53 <|Ya 57 K d14_56 <|Yc 3 8 60 K (hw 43) d14_57 <|Ya 61 K d14_60 <|Yc 3 15 64 K (hw 91) d14_61 <|Gz 8 0 65 K d14_64 ?_
 refine Gl 66 K d14_65 U1 <|Yd 0 67 K d14_66 ?_
 refine Yz 68 K d14_67 U2 <|Ye 69 K d14_68 <|Ya 70 K d14_69 <|Yc 3 11 73 K (hw 59) d14_70 <|Yf 0 1 74 K d14_73 ?_
 refine Yy 108 77 K d14_74 <|Ya 78 K d14_77 <|Yc 3 1 81 K (hw 21) d14_78 <|Ye 82 K d14_81 <|Ya 83 K d14_82 <|Yc 3 1 86 K (hw 21) d14_83 <|Ye 87 K d14_86 <|Yn 13 0 88 K d14_87 <|Ya 89 K d14_88 <|Ya 90 K d14_89 <|Yc 3 11 93 K (hw 59) d14_90 <|Ye 94 K d14_93 ?_
 refine Yn 0 0 95 K d14_94 ?_
 refine Yk [.ref b0,.int y0] [.int 0,.int 0,.ref b13] 3 0 0 98 K (hw 108) (hw 109) (hw 11) (hw 110) (own_dist_1 @hw (ix:=0) rfl (by omega) (by omega)) (lenOf pd_8 rfl) d14_95 ?_
 rintro _ _ ⟨dz95,rfl,hdz95,rfl⟩
 obtain rfl : dz95=(0 : Int32):=oEq32.mpr ((hdz95 (by omega)).trans (by decide))
 refine Yk [.int 0,.int 0] [.int 0,.ref b13] 2 0 0 101 K (hw 73) (hw 6) (hw 7) (hw 8) (own_max @hw) (lenOf pd_9 rfl) d14_98 ?_
 rintro _ _ ⟨mz98,rfl,hmz98,rfl⟩
 obtain rfl : mz98=(0 : Int32):=oEq32.mpr (hmz98.trans (by decide))
 refine Yr 13 0 102 K d14_101 rfl (S13 T0) ?_
 refine Yg 1 105 K d14_102 U2 <|Yi 68 K d14_105 <|Ye 69 K d14_68 <|Ya 70 K d14_69 <|Yc 3 11 73 K (hw 59) d14_70 <|Yf 0 1 74 K d14_73 ?_
 refine Y8 108 77 K d14_74 <|Ya 109 K d14_108 ?_
 refine Yv 110 K d14_109 <|Yc 3 15 113 K (hw 91) d14_110 <|Yd 1 114 K d14_113 ?_
 refine Ym 1 115 K d14_114 ?_
 refine Yl 3 15 .int 118 K (hw 91) (Or.inl (hw 92)) (hw 10) (oAp_0 @hw) d14_115 rfl rfl (P3 F15) <|Yi 45 K d14_118 <|Ya 46 K d14_45 <|Yc 3 15 49 K (hw 91) d14_46 <|Ya 50 K d14_49 <|Yc 3 10 53 K (hw 57) d14_50 ?_
 refine Y8 121 56 K d14_53 ?_
 exact Ga K d14_121 ⟨rfl,_,rfl⟩
theorem own_find1_1_1 (hw : oHw a0 Z) {D1 D2 D4 D5 D7 : oDsc} {f_mc f_cc : Value} {q1 q2 : Value} {y0 e0 dl : Int32} (hy0 : 1 ≤ y0.toInt ∧ y0.toInt ≤ 100000) {ocs : List Int64} {cnt : Nat} {cn : Int32} (hcn : cn.toInt = (cnt : Int)) (hO : oEnt ocs cnt 2) (hs : oSrt ocs cnt) (hol : ocs.length ≤ 1000) {wv : UInt64} {iw : Int} (hSt : Sta Z h0 "java/lang/StrictMath" "$assertionsDisabled" "Z" (.int 1)) (hwh : oWh wv) (hwv : FP.Core.DInt iw wv) (hiw : 1 ≤ iw) (hiw2 : iw ≤ 1000) {rds : List Int64} {cvs : List Value} {r0 r1 r2 : Int32} {ch : Int} {ti0 : Nat} {tx0 : Int64} (hdl : 1 ≤ dl.toInt ∧ dl.toInt ≤ 100000) (hrl : 1 ≤ rds.length ∧ rds.length ≤ 1000) (hcc : 0 < cvs.length) (hch : 0 ≤ ch ∧ ch ≤ 2) (hr0 : (r0.toInt = 0 ∧ ch = 0) ∨ (1 ≤ r0.toInt ∧ ch ≠ 0)) (hr1 : (r1.toInt = 0 ∧ ch = 1) ∨ (1 ≤ r1.toInt ∧ ch ≠ 1)) (hr2 : (r2.toInt = 0 ∧ ch = 2) ∨ (1 ≤ r2.toInt ∧ ch ≠ 2)) (ht0 : ti0 < cnt ∧ ocs[ti0]? = some tx0 ∧ tx0.toInt = y0.toInt * 4294967296 + ch) (hC : ∀ (i : Nat) (x : Int64) (p : Int), i < cnt → ocs[i]? = some x → x.toInt = p * 4294967296 + ch → p = y0.toInt) :
  oCtr l Z h0 [] nM32 prog_7_method_5_code 10 (some .int) (oR 6 1 2 124) #[.ref b3,.double wv] [(b0,.inl (.int,[.int y0])),(b1,D1),(b2,D2),(b3,oP b10 b13 b11 b12 b4 b5 b6 b7 b8 b9 (.int 1) (.ref b0) f_mc (.int cn) (.int dl) (.int 0) f_cc (.int 0) (.int 0) (.int 0)),(b4,D4),(b5,D5),(b6,.inl (.int,[.int r0,.int r1,.int r2])),(b7,D7),(b8,.inl (.array .int,[.ref b0,q1,q2])),(b9,.inl (.int,[.int 0,.int 0,.int 0])),(b10,.inl (.long,(ocs.map Value.long))),(b11,.inl (.long,(rds.map Value.long))),(b12,.inl (.int,cvs)),(b13,.inl (.int,[.int e0]))] (oVal fun w d=>∃ (b13' : Addr) (rds' : List Int64),w=.int 1∧d=[(b0,.inl (.int,[.int y0])),(b1,D1),(b2,D2),(b3,oP b10 b13' b11 b12 b4 b5 b6 b7 b8 b9 (.int 1) (.ref b0) f_mc (.int cn) (.int dl) (.int 1) (.int 1) (.int 0) (.int 0) (.int 0)),(b4,D4),(b5,D5),(b6,.inl (.int,[.int r0,.int r1,.int r2])),(b7,D7),(b8,.inl (.array .int,[.ref b0,q1,q2])),(b9,.inl (.int,[.int 0,.int 0,.int 0])),(b10,.inl (.long,(ocs.map Value.long))),(b11,.inl (.long,(rds'.map Value.long))),(b12,.inl (.int,(cvs.set 0 (.int 1)))),(b13',.inl (.int,[.int 0]))]∧rds'.length=rds.length):=by
 refine oCo #[.val (.ref b3),.val (.double wv),.second,.unset,.unset,.unset,.unset,.unset,.unset,.unset] ?_
 intro p e s m below meth c K
 refine Ya 1 K d13_0 ?_
 refine Ge b3 nM12 [] [] 0 1 2 4 K (hw 98) (hw 100) (hw 50) (hw 99) (hw 101) (hw 11) (own_widen1_1_1 @hw (by omega)) (lenOf pd_4 rfl) d13_1 ?_
 rintro _ ⟨b13',rfl⟩
 refine Y1 5 K d13_4 ?_
 refine oW.floorW (pc':=8) K @hw (hw 117) hSt hwh d13_5 rfl (by decide) (by decide) rfl ?_
 refine Ya 9 K d13_8 <|Yc 3 14 12 K (hw 65) d13_9 ?_
 obtain ⟨v12,ev12⟩:=oE (FP.i2d dl : UInt64)
 have dv12:=oI2D ev12
 refine Gh 13 K d13_12 ev12 ?_
 obtain ⟨md,emd⟩:=oE (Native.java_lang_Math.nans.pick64 false wv v12 : UInt64)
 have hmd : FP.Core.DInt (min iw dl.toInt) md:=by rw [emd]; exact oPick hwv dv12
 refine oW.minDW (pc':=16) K @hw (hw 140) (oNN hwv) (oNN dv12) emd d13_13 rfl (by decide) (by decide) (by decide) (by decide) rfl ?_
 obtain ⟨v16,ev16⟩:=oE (FP.d2i md : Int32)
 refine G3 17 K d13_16 ev16 ?_
 have tv16:=oD2I ev16 hmd (by omega)
 refine Yd 1 18 K d13_17 ?_
 obtain ⟨v18,ev18⟩:=oE (v16 - (1 : Int32) : Int32)
 refine Y9 19 K d13_18 ev18 ?_
 have tv18:=oIsub ev18 oOm
 try simp only [Int32.reduceToInt,Int64.reduceToInt] at tv18
 refine Yz 20 K d13_19 U3 <|Ya 21 K d13_20 <|Yd 0 22 K d13_21 ?_
 refine Yl 3 16 .int 25 K (hw 143) (Or.inl (hw 144)) (hw 10) (oAp_0 @hw) d13_22 rfl rfl (P3 F16) <|Yd 0 26 K d13_25 ?_
 refine Yj 28 K d13_26 U4 <|Yd 0 29 K d13_28 ?_
 refine Yj 31 K d13_29 U5 <|Yd 0 32 K d13_31 ?_
 refine Yj 34 K d13_32 U6 <|Yb 36 K d13_34 <|Ya 37 K d13_36 <|Yc 3 11 40 K (hw 59) d13_37 <|Yf 0 1 41 K d13_40 ?_
 refine Yy 139 44 K d13_41 <|Ya 45 K d13_44 <|Yc 3 11 48 K (hw 59) d13_45 <|Yb 50 K d13_48 <|Yn 0 0 51 K d13_50 ?_
 refine Yj 53 K d13_51 U7 <|Ya 54 K d13_53 <|Yc 3 1 57 K (hw 21) d13_54 <|Yb 59 K d13_57 <|Yn 13 0 60 K d13_59 <|Yd 1 61 K d13_60 ?_
 refine Ym 1 62 K d13_61 ?_
 refine G2 (4607182418800017408 : UInt64) 63 K d13_62 <|Y1 64 K d13_63 ?_
 obtain ⟨v64,ev64⟩:=oE (cmpValue (FP.dcmp (4607182418800017408 : UInt64) wv) .l : Int32)
 refine Gi 65 K d13_64 ev64 ?_
 refine oW.if_gt (pc':=133) (pc3:=68) K d13_65 (by decide) (by decide) rfl (fun q=>absurd ((oCmp (oDK 1 (by decide +kernel) (by decide)) hwv ev64).2.2.mp q) (by omega)) (fun c65=>?_)
 refine Yb 70 K d13_68 <|Yb 72 K d13_70 ?_
 refine oW.icmp_gt (pc':=78) (pc3:=75) K d13_72 (by decide) (by decide) rfl (fun c72=>?_) (fun q=>(by simp only [oLt32,oEq32,Int32.reduceToInt] at q; omega))
 refine Yb 80 K d13_78 ?_
 obtain ⟨v80,ev80⟩:=oE (y0.toInt64 : Int64)
 refine Gd 81 K d13_80 ev80 ?_
 have tv80 : v80.toInt=_:=oI2L ev80
 refine Ye 82 K d13_81 ?_
 obtain ⟨v82,ev82⟩:=oE (v18.toInt64 : Int64)
 refine Gd 83 K d13_82 ev82 ?_
 have tv82 : v82.toInt=_:=oI2L ev82
 obtain ⟨v83,ev83⟩:=oE (v80 + v82 : Int64)
 refine Gv 84 K d13_83 ev83 ?_
 have tv83:=oLadd ev83 oOm
 try simp only [Int32.reduceToInt,Int64.reduceToInt] at tv83
 refine Gx 87 K (hw 156) d13_84 ?_
 refine Yk [.long v83,.long 2147483647] [] 0 1 2 90 K (hw 157) (hw 158) (hw 7) (hw 159) (own_minJ @hw) (lenOf pd_17 rfl) d13_87 ?_
 rintro _ _ ⟨mj87,rfl,tmj87,rfl⟩
 rw [show (2147483647 : Int64).toInt=2147483647 by decide] at tmj87
 obtain ⟨v90,ev90⟩:=oE (mj87.toInt32 : Int32)
 refine Gs 91 K d13_90 ev90 ?_
 have tv90:=oL2I ev90 (by omega)
 refine Yj 93 K d13_91 U8 <|Ya 94 K d13_93 <|Yb 96 K d13_94 <|Yd 1 97 K d13_96 ?_
 refine Ym 1 98 K d13_97 <|Yb 100 K d13_98 <|Ye 101 K d13_100 ?_
 obtain ⟨v101,ev101⟩:=oE (y0 - v18 : Int32)
 refine Y9 102 K d13_101 ev101 ?_
 have tv101:=oIsub ev101 oOm
 try simp only [Int32.reduceToInt,Int64.reduceToInt] at tv101
 refine Yk [.int 1,.int v101] [.ref b3] 1 1 2 105 K (hw 73) (hw 6) (hw 7) (hw 8) (own_max @hw) (lenOf pd_9 rfl) d13_102 ?_
 rintro _ _ ⟨lo102,rfl,tlo102,rfl⟩
 try simp only [Int32.reduceToInt] at tlo102
 refine Yb 107 K d13_105 <|Y1 108 K d13_107 ?_
 refine Gk b3 nM12 [.int lo102,.int v90,.double wv] [] 0 1 2 111 K (hw 160) (hw 162) (hw 50) (hw 161) (hw 163) (hw 11) (own_rr1_0 @hw hcn hO hs hol hwv hiw (by omega) (by omega) hch hr0 hr1 hr2 (by omega) (by omega) ht0.1 ht0.2.1 ht0.2.2 (fun i x p a b c g=>by have:=hC i x p a b c; omega)) (lenOf pd_18 rfl) d13_108 ?_
 rintro _ _ ⟨rds0,z0,rfl,rfl,hl0,tz0⟩
 refine Yj 113 K d13_111 U9 <|Yb 115 K d13_113 ?_
 refine oW.if_ne (pc':=125) (pc3:=118) K d13_115 (by decide) (by decide) rfl (fun c115=>?_) (fun q=>(by simp only [oLt32,oEq32,Int32.reduceToInt] at q; omega))
 refine Yb 127 K d13_125 ?_
 refine Yj 129 K d13_127 U4 <|Yb 131 K d13_129 ?_
 refine Yj 133 K d13_131 U5 ?_
 refine Yg 1 136 K d13_133 U6 <|Yi 34 K d13_136 <|Yb 36 K d13_34 <|Ya 37 K d13_36 <|Yc 3 11 40 K (hw 59) d13_37 <|Yf 0 1 41 K d13_40 ?_
 refine Y8 139 44 K d13_41 <|Ya 140 K d13_139 ?_
 refine Ge b3 nM12 [] [] 0 1 2 143 K (hw 145) (hw 147) (hw 50) (hw 146) (hw 148) (hw 11) (own_restart @hw (n:=0) (by decide) (by omega) oEnt.z oKp.z oKp.z (by decide)) (lenOf pd_4 rfl) d13_140 ?_
 rintro _ rfl
 refine Ya 144 K d13_143 <|Yc 3 16 147 K (hw 143) d13_144 ?_
 exact Yq K d13_147 ⟨_,rfl,_,_,rfl,rfl,hl0⟩
theorem own_widen1_2_1 (hw : oHw a0 Z) {D1 D2 D4 D5 D6 D7 D9 D10 D11 D12 : oDsc} {f_mc f_cn f_dl f_cc f_rc f_hd f_ea : Value} {q1 q2 : Value} {y0 y1 e0 : Int32} (hy0 : 1≤y0.toInt∧y0.toInt≤100000) (hy1 : 1≤y1.toInt∧y1.toInt≤100000) (hy0y1 : y0.toInt < y1.toInt) :
  oCtr l Z h0 [] nM31 prog_7_method_7_code 3 none (oR 3 1 2 60) #[.ref b3] [(b0,.inl (.int,[.int y0,.int y1])),(b1,D1),(b2,D2),(b3,oP b10 b13 b11 b12 b4 b5 b6 b7 b8 b9 (.int 1) (.ref b0) f_mc f_cn f_dl (.int 0) f_cc f_rc f_hd f_ea),(b4,D4),(b5,D5),(b6,D6),(b7,D7),(b8,.inl (.array .int,[.ref b0,q1,q2])),(b9,D9),(b10,D10),(b11,D11),(b12,D12),(b13,.inl (.int,[.int e0]))] (oVoid fun d=>∃ b13' : Addr,d=[(b0,.inl (.int,[.int y0,.int y1])),(b1,D1),(b2,D2),(b3,oP b10 b13' b11 b12 b4 b5 b6 b7 b8 b9 (.int 1) (.ref b0) f_mc f_cn f_dl (.int 1) f_cc f_rc f_hd f_ea),(b4,D4),(b5,D5),(b6,D6),(b7,D7),(b8,.inl (.array .int,[.ref b0,q1,q2])),(b9,D9),(b10,D10),(b11,D11),(b12,D12),(b13',.inl (.int,[.int 0,.int 0]))]):=by
 refine oCo #[.val (.ref b3),.unset,.unset] ?_
 intro p e s m below meth c K
 refine Ya 1 K d14_0 <|Yc 3 15 4 K (hw 91) d14_1 ?_
 refine Gc 45 7 K d14_4 <|Ya 8 K d14_7 <|Yc 3 1 11 K (hw 21) d14_8 <|Yf 13 1 12 K d14_11 <|Ya 13 K d14_12 <|Yc 3 11 16 K (hw 59) d14_13 <|Yf 0 2 17 K d14_16 ?_
 refine Yy 31 20 K d14_17 <|Ya 21 K d14_20 <|Ya 22 K d14_21 <|Yc 3 11 25 K (hw 59) d14_22 <|Yf 0 2 26 K d14_25 ?_
 refine Y3 2 1 2 28 K (hw 4) d14_26 (N14 (.inl (.int,[.int 0,.int 0]))) ?_
 intro a26 ha26
 refine Yl 3 1 (.array .int) 31 K (hw 21) (Or.inl (hw 22)) (hw 10) (oAp_0 @hw) d14_28 rfl rfl (P3 F1) ?_
 refine oPk2 ?_
 refine Ya 32 K d14_31 <|Yc 3 1 35 K (hw 21) d14_32 <|Yd 0 36 K d14_35 <|Ya 37 K d14_36 <|Yc 3 11 40 K (hw 59) d14_37 <|Yf 0 2 41 K d14_40 <|Yd 0 42 K d14_41 ?_
 refine Gu [.ref a26,.int 0,.int 2,.int 0] [] 0 1 2 45 K (hw 102) (hw 103) (hw 37) (hw 104) (own_fillF_2_2 @hw) (lenOf pd_16 rfl) d14_42 ?_
 rintro _ rfl
 refine Ya 46 K d14_45 <|Yc 3 15 49 K (hw 91) d14_46 <|Ya 50 K d14_49 <|Yc 3 10 53 K (hw 57) d14_50 ?_
 refine Yy 121 56 K d14_53 <|Ya 57 K d14_56 <|Yc 3 8 60 K (hw 43) d14_57 <|Ya 61 K d14_60 <|Yc 3 15 64 K (hw 91) d14_61 <|Gz 8 0 65 K d14_64 ?_
 refine Gl 66 K d14_65 U1 <|Yd 0 67 K d14_66 ?_
 refine Yz 68 K d14_67 U2 <|Ye 69 K d14_68 <|Ya 70 K d14_69 <|Yc 3 11 73 K (hw 59) d14_70 <|Yf 0 2 74 K d14_73 ?_
 refine Yy 108 77 K d14_74 <|Ya 78 K d14_77 <|Yc 3 1 81 K (hw 21) d14_78 <|Ye 82 K d14_81 <|Ya 83 K d14_82 <|Yc 3 1 86 K (hw 21) d14_83 <|Ye 87 K d14_86 <|Yn 13 0 88 K d14_87 <|Ya 89 K d14_88 <|Ya 90 K d14_89 <|Yc 3 11 93 K (hw 59) d14_90 <|Ye 94 K d14_93 ?_
 refine Yn 0 0 95 K d14_94 ?_
 refine Yk [.ref b0,.int y0] [.int 0,.int 0,.ref a26] 3 1 2 98 K (hw 108) (hw 109) (hw 11) (hw 110) (own_dist_2 @hw (ix:=0) rfl (by omega) (by omega) (by omega) (by omega)) (lenOf pd_8 rfl) d14_95 ?_
 rintro _ _ ⟨dz95,rfl,hdz95,rfl⟩
 obtain rfl : dz95=(0 : Int32):=oEq32.mpr ((hdz95 (by omega)).trans (by decide))
 refine Yk [.int 0,.int 0] [.int 0,.ref a26] 2 1 2 101 K (hw 73) (hw 6) (hw 7) (hw 8) (own_max @hw) (lenOf pd_9 rfl) d14_98 ?_
 rintro _ _ ⟨mz98,rfl,hmz98,rfl⟩
 obtain rfl : mz98=(0 : Int32):=oEq32.mpr (hmz98.trans (by decide))
 refine Yr 13 0 102 K d14_101 rfl (S13 T0) ?_
 refine Yg 1 105 K d14_102 U2 <|Yi 68 K d14_105 <|Ye 69 K d14_68 <|Ya 70 K d14_69 <|Yc 3 11 73 K (hw 59) d14_70 <|Yf 0 2 74 K d14_73 ?_
 refine Yy 108 77 K d14_74 <|Ya 78 K d14_77 <|Yc 3 1 81 K (hw 21) d14_78 <|Ye 82 K d14_81 <|Ya 83 K d14_82 <|Yc 3 1 86 K (hw 21) d14_83 <|Ye 87 K d14_86 <|Yn 13 1 88 K d14_87 <|Ya 89 K d14_88 <|Ya 90 K d14_89 <|Yc 3 11 93 K (hw 59) d14_90 <|Ye 94 K d14_93 ?_
 refine Yn 0 1 95 K d14_94 ?_
 refine Yk [.ref b0,.int y1] [.int 0,.int 1,.ref a26] 3 1 2 98 K (hw 108) (hw 109) (hw 11) (hw 110) (own_dist_2 @hw (ix:=0) rfl (by omega) (by omega) (by omega) (by omega)) (lenOf pd_8 rfl) d14_95 ?_
 rintro _ _ ⟨dz95_1,rfl,hdz95_1,rfl⟩
 obtain rfl : dz95_1=(0 : Int32):=oEq32.mpr ((hdz95_1 (by omega)).trans (by decide))
 refine Yk [.int 0,.int 0] [.int 1,.ref a26] 2 1 2 101 K (hw 73) (hw 6) (hw 7) (hw 8) (own_max @hw) (lenOf pd_9 rfl) d14_98 ?_
 rintro _ _ ⟨mz98_1,rfl,hmz98_1,rfl⟩
 obtain rfl : mz98_1=(0 : Int32):=oEq32.mpr (hmz98_1.trans (by decide))
 refine Yr 13 1 102 K d14_101 rfl (S13 T1) ?_
 refine Yg 2 105 K d14_102 U2 <|Yi 68 K d14_105 <|Ye 69 K d14_68 <|Ya 70 K d14_69 <|Yc 3 11 73 K (hw 59) d14_70 <|Yf 0 2 74 K d14_73 ?_
 refine Y8 108 77 K d14_74 <|Ya 109 K d14_108 ?_
 refine Yv 110 K d14_109 <|Yc 3 15 113 K (hw 91) d14_110 <|Yd 1 114 K d14_113 ?_
 refine Ym 1 115 K d14_114 ?_
 refine Yl 3 15 .int 118 K (hw 91) (Or.inl (hw 92)) (hw 10) (oAp_0 @hw) d14_115 rfl rfl (P3 F15) <|Yi 45 K d14_118 <|Ya 46 K d14_45 <|Yc 3 15 49 K (hw 91) d14_46 <|Ya 50 K d14_49 <|Yc 3 10 53 K (hw 57) d14_50 ?_
 refine Y8 121 56 K d14_53 ?_
 exact Ga K d14_121 ⟨rfl,_,rfl⟩
theorem own_find1_2_1 (hw : oHw a0 Z) {D1 D2 D4 D5 D7 : oDsc} {f_mc f_cc : Value} {q1 q2 : Value} {y0 y1 e0 dl : Int32} (hy0 : 1 ≤ y0.toInt ∧ y0.toInt ≤ 100000) (hy1 : 1 ≤ y1.toInt ∧ y1.toInt ≤ 100000) (hy0y1 : y0.toInt < y1.toInt) {ocs : List Int64} {cnt : Nat} {cn : Int32} (hcn : cn.toInt = (cnt : Int)) (hO : oEnt ocs cnt 2) (hs : oSrt ocs cnt) (hol : ocs.length ≤ 1000) {wv : UInt64} {iw : Int} (hSt : Sta Z h0 "java/lang/StrictMath" "$assertionsDisabled" "Z" (.int 1)) (hwh : oWh wv) (hwv : FP.Core.DInt iw wv) (hiw : 1 ≤ iw) (hiw2 : iw ≤ 1000) {rds : List Int64} {cvs : List Value} {r0 r1 r2 : Int32} {ch : Int} {ti0 ti1 : Nat} {tx0 tx1 : Int64} (hdl : 1 ≤ dl.toInt ∧ dl.toInt ≤ 100000) (hrl : 1 ≤ rds.length ∧ rds.length ≤ 1000) (hcc : 1 < cvs.length) (hch : 0 ≤ ch ∧ ch ≤ 2) (hr0 : (r0.toInt = 0 ∧ ch = 0) ∨ (1 ≤ r0.toInt ∧ ch ≠ 0)) (hr1 : (r1.toInt = 0 ∧ ch = 1) ∨ (1 ≤ r1.toInt ∧ ch ≠ 1)) (hr2 : (r2.toInt = 0 ∧ ch = 2) ∨ (1 ≤ r2.toInt ∧ ch ≠ 2)) (ht0 : ti0 < cnt ∧ ocs[ti0]? = some tx0 ∧ tx0.toInt = y0.toInt * 4294967296 + ch) (ht1 : ti1 < cnt ∧ ocs[ti1]? = some tx1 ∧ tx1.toInt = y1.toInt * 4294967296 + ch) (hC : ∀ (i : Nat) (x : Int64) (p : Int), i < cnt → ocs[i]? = some x → x.toInt = p * 4294967296 + ch → p = y0.toInt ∨ p = y1.toInt) :
  oCtr l Z h0 [] nM32 prog_7_method_5_code 10 (some .int) (oR 6 1 2 124) #[.ref b3,.double wv] [(b0,.inl (.int,[.int y0,.int y1])),(b1,D1),(b2,D2),(b3,oP b10 b13 b11 b12 b4 b5 b6 b7 b8 b9 (.int 1) (.ref b0) f_mc (.int cn) (.int dl) (.int 0) f_cc (.int 0) (.int 0) (.int 0)),(b4,D4),(b5,D5),(b6,.inl (.int,[.int r0,.int r1,.int r2])),(b7,D7),(b8,.inl (.array .int,[.ref b0,q1,q2])),(b9,.inl (.int,[.int 0,.int 0,.int 0])),(b10,.inl (.long,(ocs.map Value.long))),(b11,.inl (.long,(rds.map Value.long))),(b12,.inl (.int,cvs)),(b13,.inl (.int,[.int e0]))] (oVal fun w d=>∃ (b13' : Addr) (rds' : List Int64),w=.int 2∧d=[(b0,.inl (.int,[.int y0,.int y1])),(b1,D1),(b2,D2),(b3,oP b10 b13' b11 b12 b4 b5 b6 b7 b8 b9 (.int 1) (.ref b0) f_mc (.int cn) (.int dl) (.int 1) (.int 2) (.int 0) (.int 0) (.int 0)),(b4,D4),(b5,D5),(b6,.inl (.int,[.int r0,.int r1,.int r2])),(b7,D7),(b8,.inl (.array .int,[.ref b0,q1,q2])),(b9,.inl (.int,[.int 0,.int 0,.int 0])),(b10,.inl (.long,(ocs.map Value.long))),(b11,.inl (.long,(rds'.map Value.long))),(b12,.inl (.int,((cvs.set 0 (.int 1)).set 1 (.int 1)))),(b13',.inl (.int,[.int 0,.int 0]))]∧rds'.length=rds.length):=by
 refine oCo #[.val (.ref b3),.val (.double wv),.second,.unset,.unset,.unset,.unset,.unset,.unset,.unset] ?_
 intro p e s m below meth c K
 refine Ya 1 K d13_0 ?_
 refine Ge b3 nM12 [] [] 0 1 2 4 K (hw 98) (hw 100) (hw 50) (hw 99) (hw 101) (hw 11) (own_widen1_2_1 @hw (by omega) (by omega) (by omega)) (lenOf pd_4 rfl) d13_1 ?_
 rintro _ ⟨b13',rfl⟩
 refine Y1 5 K d13_4 ?_
 refine oW.floorW (pc':=8) K @hw (hw 117) hSt hwh d13_5 rfl (by decide) (by decide) rfl ?_
 refine Ya 9 K d13_8 <|Yc 3 14 12 K (hw 65) d13_9 ?_
 obtain ⟨v12,ev12⟩:=oE (FP.i2d dl : UInt64)
 have dv12:=oI2D ev12
 refine Gh 13 K d13_12 ev12 ?_
 obtain ⟨md,emd⟩:=oE (Native.java_lang_Math.nans.pick64 false wv v12 : UInt64)
 have hmd : FP.Core.DInt (min iw dl.toInt) md:=by rw [emd]; exact oPick hwv dv12
 refine oW.minDW (pc':=16) K @hw (hw 140) (oNN hwv) (oNN dv12) emd d13_13 rfl (by decide) (by decide) (by decide) (by decide) rfl ?_
 obtain ⟨v16,ev16⟩:=oE (FP.d2i md : Int32)
 refine G3 17 K d13_16 ev16 ?_
 have tv16:=oD2I ev16 hmd (by omega)
 refine Yd 1 18 K d13_17 ?_
 obtain ⟨v18,ev18⟩:=oE (v16 - (1 : Int32) : Int32)
 refine Y9 19 K d13_18 ev18 ?_
 have tv18:=oIsub ev18 oOm
 try simp only [Int32.reduceToInt,Int64.reduceToInt] at tv18
 refine Yz 20 K d13_19 U3 <|Ya 21 K d13_20 <|Yd 0 22 K d13_21 ?_
 refine Yl 3 16 .int 25 K (hw 143) (Or.inl (hw 144)) (hw 10) (oAp_0 @hw) d13_22 rfl rfl (P3 F16) <|Yd 0 26 K d13_25 ?_
 refine Yj 28 K d13_26 U4 <|Yd 0 29 K d13_28 ?_
 refine Yj 31 K d13_29 U5 <|Yd 0 32 K d13_31 ?_
 refine Yj 34 K d13_32 U6 <|Yb 36 K d13_34 <|Ya 37 K d13_36 <|Yc 3 11 40 K (hw 59) d13_37 <|Yf 0 2 41 K d13_40 ?_
 refine Yy 139 44 K d13_41 <|Ya 45 K d13_44 <|Yc 3 11 48 K (hw 59) d13_45 <|Yb 50 K d13_48 <|Yn 0 0 51 K d13_50 ?_
 refine Yj 53 K d13_51 U7 <|Ya 54 K d13_53 <|Yc 3 1 57 K (hw 21) d13_54 <|Yb 59 K d13_57 <|Yn 13 0 60 K d13_59 <|Yd 1 61 K d13_60 ?_
 refine Ym 1 62 K d13_61 ?_
 refine G2 (4607182418800017408 : UInt64) 63 K d13_62 <|Y1 64 K d13_63 ?_
 obtain ⟨v64,ev64⟩:=oE (cmpValue (FP.dcmp (4607182418800017408 : UInt64) wv) .l : Int32)
 refine Gi 65 K d13_64 ev64 ?_
 refine oW.if_gt (pc':=133) (pc3:=68) K d13_65 (by decide) (by decide) rfl (fun q=>absurd ((oCmp (oDK 1 (by decide +kernel) (by decide)) hwv ev64).2.2.mp q) (by omega)) (fun c65=>?_)
 refine Yb 70 K d13_68 <|Yb 72 K d13_70 ?_
 refine oW.icmp_gt (pc':=78) (pc3:=75) K d13_72 (by decide) (by decide) rfl (fun c72=>?_) (fun q=>(by simp only [oLt32,oEq32,Int32.reduceToInt] at q; omega))
 refine Yb 80 K d13_78 ?_
 obtain ⟨v80,ev80⟩:=oE (y0.toInt64 : Int64)
 refine Gd 81 K d13_80 ev80 ?_
 have tv80 : v80.toInt=_:=oI2L ev80
 refine Ye 82 K d13_81 ?_
 obtain ⟨v82,ev82⟩:=oE (v18.toInt64 : Int64)
 refine Gd 83 K d13_82 ev82 ?_
 have tv82 : v82.toInt=_:=oI2L ev82
 obtain ⟨v83,ev83⟩:=oE (v80 + v82 : Int64)
 refine Gv 84 K d13_83 ev83 ?_
 have tv83:=oLadd ev83 oOm
 try simp only [Int32.reduceToInt,Int64.reduceToInt] at tv83
 refine Gx 87 K (hw 156) d13_84 ?_
 refine Yk [.long v83,.long 2147483647] [] 0 1 2 90 K (hw 157) (hw 158) (hw 7) (hw 159) (own_minJ @hw) (lenOf pd_17 rfl) d13_87 ?_
 rintro _ _ ⟨mj87,rfl,tmj87,rfl⟩
 rw [show (2147483647 : Int64).toInt=2147483647 by decide] at tmj87
 obtain ⟨v90,ev90⟩:=oE (mj87.toInt32 : Int32)
 refine Gs 91 K d13_90 ev90 ?_
 have tv90:=oL2I ev90 (by omega)
 refine Yj 93 K d13_91 U8 <|Ya 94 K d13_93 <|Yb 96 K d13_94 <|Yd 1 97 K d13_96 ?_
 refine Ym 1 98 K d13_97 <|Yb 100 K d13_98 <|Ye 101 K d13_100 ?_
 obtain ⟨v101,ev101⟩:=oE (y0 - v18 : Int32)
 refine Y9 102 K d13_101 ev101 ?_
 have tv101:=oIsub ev101 oOm
 try simp only [Int32.reduceToInt,Int64.reduceToInt] at tv101
 refine Yk [.int 1,.int v101] [.ref b3] 1 1 2 105 K (hw 73) (hw 6) (hw 7) (hw 8) (own_max @hw) (lenOf pd_9 rfl) d13_102 ?_
 rintro _ _ ⟨lo102,rfl,tlo102,rfl⟩
 try simp only [Int32.reduceToInt] at tlo102
 refine Yb 107 K d13_105 <|Y1 108 K d13_107 ?_
 refine Gk b3 nM12 [.int lo102,.int v90,.double wv] [] 0 1 2 111 K (hw 160) (hw 162) (hw 50) (hw 161) (hw 163) (hw 11) (own_rr1_0 @hw hcn hO hs hol hwv hiw (by omega) (by omega) hch hr0 hr1 hr2 (by omega) (by omega) ht0.1 ht0.2.1 ht0.2.2 (fun i x p a b c g=>by have:=hC i x p a b c; omega)) (lenOf pd_18 rfl) d13_108 ?_
 rintro _ _ ⟨rds0,z0,rfl,rfl,hl0,tz0⟩
 refine Yj 113 K d13_111 U9 <|Yb 115 K d13_113 ?_
 refine oW.if_ne (pc':=125) (pc3:=118) K d13_115 (by decide) (by decide) rfl (fun c115=>?_) (fun q=>(by simp only [oLt32,oEq32,Int32.reduceToInt] at q; omega))
 refine Yb 127 K d13_125 ?_
 refine Yj 129 K d13_127 U4 <|Yb 131 K d13_129 ?_
 refine Yj 133 K d13_131 U5 ?_
 refine Yg 1 136 K d13_133 U6 <|Yi 34 K d13_136 <|Yb 36 K d13_34 <|Ya 37 K d13_36 <|Yc 3 11 40 K (hw 59) d13_37 <|Yf 0 2 41 K d13_40 ?_
 refine Yy 139 44 K d13_41 <|Ya 45 K d13_44 <|Yc 3 11 48 K (hw 59) d13_45 <|Yb 50 K d13_48 <|Yn 0 1 51 K d13_50 ?_
 refine Yj 53 K d13_51 U7 <|Ya 54 K d13_53 <|Yc 3 1 57 K (hw 21) d13_54 <|Yb 59 K d13_57 <|Yn 13 1 60 K d13_59 <|Yd 1 61 K d13_60 ?_
 refine Ym 1 62 K d13_61 ?_
 refine G2 (4607182418800017408 : UInt64) 63 K d13_62 <|Y1 64 K d13_63 ?_
 obtain ⟨v64_1,ev64_1⟩:=oE (cmpValue (FP.dcmp (4607182418800017408 : UInt64) wv) .l : Int32)
 refine Gi 65 K d13_64 ev64_1 ?_
 refine oW.if_gt (pc':=133) (pc3:=68) K d13_65 (by decide) (by decide) rfl (fun q=>absurd ((oCmp (oDK 1 (by decide +kernel) (by decide)) hwv ev64_1).2.2.mp q) (by omega)) (fun c65_1=>?_)
 refine Yb 70 K d13_68 <|Yb 72 K d13_70 ?_
 refine oW.icmp_gt (pc':=78) (pc3:=75) K d13_72 (by decide) (by decide) rfl (fun c72_1=>?_) (fun q=>(by simp only [oLt32,oEq32,Int32.reduceToInt] at q; omega))
 refine Yb 80 K d13_78 ?_
 obtain ⟨v80_1,ev80_1⟩:=oE (y1.toInt64 : Int64)
 refine Gd 81 K d13_80 ev80_1 ?_
 have tv80_1 : v80_1.toInt=_:=oI2L ev80_1
 refine Ye 82 K d13_81 ?_
 obtain ⟨v82_1,ev82_1⟩:=oE (v18.toInt64 : Int64)
 refine Gd 83 K d13_82 ev82_1 ?_
 have tv82_1 : v82_1.toInt=_:=oI2L ev82_1
 obtain ⟨v83_1,ev83_1⟩:=oE (v80_1 + v82_1 : Int64)
 refine Gv 84 K d13_83 ev83_1 ?_
 have tv83_1:=oLadd ev83_1 oOm
 try simp only [Int32.reduceToInt,Int64.reduceToInt] at tv83_1
 refine Gx 87 K (hw 156) d13_84 ?_
 refine Yk [.long v83_1,.long 2147483647] [] 0 1 2 90 K (hw 157) (hw 158) (hw 7) (hw 159) (own_minJ @hw) (lenOf pd_17 rfl) d13_87 ?_
 rintro _ _ ⟨mj87_1,rfl,tmj87_1,rfl⟩
 rw [show (2147483647 : Int64).toInt=2147483647 by decide] at tmj87_1
 obtain ⟨v90_1,ev90_1⟩:=oE (mj87_1.toInt32 : Int32)
 refine Gs 91 K d13_90 ev90_1 ?_
 have tv90_1:=oL2I ev90_1 (by omega)
 refine Yj 93 K d13_91 U8 <|Ya 94 K d13_93 <|Yb 96 K d13_94 <|Yd 1 97 K d13_96 ?_
 obtain ⟨v97,ev97⟩:=oE (z0 + (1 : Int32) : Int32)
 refine Y0 98 K d13_97 ev97 ?_
 have tv97:=oIadd ev97 oOm
 try simp only [Int32.reduceToInt,Int64.reduceToInt] at tv97
 refine Yb 100 K d13_98 <|Ye 101 K d13_100 ?_
 obtain ⟨v101_1,ev101_1⟩:=oE (y1 - v18 : Int32)
 refine Y9 102 K d13_101 ev101_1 ?_
 have tv101_1:=oIsub ev101_1 oOm
 try simp only [Int32.reduceToInt,Int64.reduceToInt] at tv101_1
 refine Yk [.int v97,.int v101_1] [.ref b3] 1 1 2 105 K (hw 73) (hw 6) (hw 7) (hw 8) (own_max @hw) (lenOf pd_9 rfl) d13_102 ?_
 rintro _ _ ⟨lo102_1,rfl,tlo102_1,rfl⟩
 try simp only [Int32.reduceToInt] at tlo102_1
 refine Yb 107 K d13_105 <|Y1 108 K d13_107 ?_
 refine Gk b3 nM12 [.int lo102_1,.int v90_1,.double wv] [] 0 1 2 111 K (hw 160) (hw 162) (hw 50) (hw 161) (hw 163) (hw 11) (own_rr1_1 @hw hcn hO hs hol hwv hiw (by omega) (by rw [List.length_set]; omega) hch hr0 hr1 hr2 (by omega) (by omega) ht1.1 ht1.2.1 ht1.2.2 (fun i x p a b c g=>by have:=hC i x p a b c; omega)) (lenOf pd_18 rfl) d13_108 ?_
 rintro _ _ ⟨rds1,z1,rfl,rfl,hl1,tz1⟩
 refine Yj 113 K d13_111 U9 <|Yb 115 K d13_113 ?_
 refine oW.if_ne (pc':=125) (pc3:=118) K d13_115 (by decide) (by decide) rfl (fun c115_1=>?_) (fun q=>(by simp only [oLt32,oEq32,Int32.reduceToInt] at q; omega))
 refine Yb 127 K d13_125 ?_
 refine Yj 129 K d13_127 U4 <|Yb 131 K d13_129 ?_
 refine Yj 133 K d13_131 U5 ?_
 refine Yg 2 136 K d13_133 U6 <|Yi 34 K d13_136 <|Yb 36 K d13_34 <|Ya 37 K d13_36 <|Yc 3 11 40 K (hw 59) d13_37 <|Yf 0 2 41 K d13_40 ?_
 refine Y8 139 44 K d13_41 <|Ya 140 K d13_139 ?_
 refine Ge b3 nM12 [] [] 0 1 2 143 K (hw 145) (hw 147) (hw 50) (hw 146) (hw 148) (hw 11) (own_restart @hw (n:=0) (by decide) (by omega) oEnt.z oKp.z oKp.z (by decide)) (lenOf pd_4 rfl) d13_140 ?_
 rintro _ rfl
 refine Ya 144 K d13_143 <|Yc 3 16 147 K (hw 143) d13_144 ?_
 exact Yq K d13_147 ⟨_,rfl,_,_,rfl,rfl,hl1.trans hl0⟩
theorem own_copy_1_3 (hw : oHw a0 Z) {D0 D1 D2 D3 D4 D5 D6 D7 D8 D9 D11 D12 D13 : oDsc} {g0 : Int64} :
  oCtr l Z h0 [] nM27 jdk_65_method_124_code 3 (some (.array .long)) (oR 1 1 3 48) #[.ref b10,.int 3] [(b0,D0),(b1,D1),(b2,D2),(b3,D3),(b4,D4),(b5,D5),(b6,D6),(b7,D7),(b8,D8),(b9,D9),(b10,.inl (.long,[.long g0])),(b11,D11),(b12,D12),(b13,D13)] (oVal fun w d=>∃ b14 : Addr,w=.ref b14∧d=[(b0,D0),(b1,D1),(b2,D2),(b3,D3),(b4,D4),(b5,D5),(b6,D6),(b7,D7),(b8,D8),(b9,D9),(b10,.inl (.long,[.long g0])),(b11,D11),(b12,D12),(b13,D13),(b14,.inl (.long,[.long g0,.long 0,.long 0]))]):=by
 refine oCo #[.val (.ref b10),.val (.int 3),.unset] ?_
 intro p e s m below meth c K
 refine Ye 1 K d9_0 <|Ya 2 K d9_1 <|Yf 10 1 3 K d9_2 ?_
 refine Gj 14 6 K d9_3 <|Ye 15 K d9_14 ?_
 refine Y3 3 1 3 17 K (hw 18) d9_15 (N14 (.inl (.long,[.long 0,.long 0,.long 0]))) ?_
 intro a15 ha15
 refine Gl 18 K d9_17 U2 <|Ya 19 K d9_18 <|Yd 0 20 K d9_19 <|Ya 21 K d9_20 <|Yd 0 22 K d9_21 <|Ya 23 K d9_22 <|Yf 10 1 24 K d9_23 <|Ye 25 K d9_24 ?_
 refine Yk [.int 1,.int 3] [.int 0,.ref a15,.int 0,.ref b10] 4 1 3 28 K (hw 77) (hw 78) (hw 7) (hw 79) (own_min @hw) (lenOf pd_9 rfl) d9_25 ?_
 rintro _ _ ⟨mz,rfl,hmz,rfl⟩
 obtain rfl : mz=(1 : Int32):=oEq32.mpr (hmz.trans (by decide))
 refine oW.copyJ (W:=0) (i1:=10) (i2:=14) (xs:=[g0]) (us:=[0,0,0]) (ds':=[(b0,D0),(b1,D1),(b2,D2),(b3,D3),(b4,D4),(b5,D5),(b6,D6),(b7,D7),(b8,D8),(b9,D9),(b10,.inl (.long,[.long g0])),(b11,D11),(b12,D12),(b13,D13),(a15,.inl (.long,[.long g0,.long 0,.long 0]))]) (pc':=31) K (hw 80) (hw 83) (hw 81) (hw 82) d9_28 rfl rfl rfl rfl rfl (Nat.le_of_ble_eq_true rfl) (by decide) rfl rfl (by decide) (Nat.le_of_eq rfl) (by decide) rfl ?_
 refine Ya 32 K d9_31 ?_
 exact G0 K d9_32 ⟨_,rfl,_,rfl,rfl⟩
theorem own_aw_1_1_2 (hw : oHw a0 Z) {D0 D2 D3 D4 D5 D6 D7 D8 D9 D11 D12 D13 : oDsc} {g0 t0 t1 : Int64} {rt : List Value} {y0 y1 : Int32} (hy0 : 1≤y0.toInt∧y0.toInt≤100000) (hy1 : 1≤y1.toInt∧y1.toInt≤100000) (hy0y1 : y0.toInt < y1.toInt) (hch : oCh [g0]) (hne00 : g0.toInt ≠ y0.toInt * 4294967296 + 1) (hne01 : g0.toInt ≠ y1.toInt * 4294967296 + 1) :
  oCtr l Z h0 [] nM28 prog_6_method_3_code 9 (some .int) (oR 1 0 0 24) #[.ref b10,.int 1,.ref b1,.int 1] [(b0,D0),(b1,.inl (.int,[.int y0,.int y1])),(b2,D2),(b3,D3),(b4,D4),(b5,D5),(b6,D6),(b7,D7),(b8,D8),(b9,D9),(b10,.inl (.long,(.long g0)::(.long t0)::(.long t1)::rt)),(b11,D11),(b12,D12),(b13,D13)] (oVal fun w d=>∃ (z0 z1 z2 : Int64),w=.int 3∧d=[(b0,D0),(b1,.inl (.int,[.int y0,.int y1])),(b2,D2),(b3,D3),(b4,D4),(b5,D5),(b6,D6),(b7,D7),(b8,D8),(b9,D9),(b10,.inl (.long,(.long z0)::(.long z1)::(.long z2)::rt)),(b11,D11),(b12,D12),(b13,D13)]∧oCh [z0,z1,z2]∧∀ v : Int,(v=z0.toInt∨v=z1.toInt∨v=z2.toInt) ↔ ((v=g0.toInt)∨(v=y0.toInt * 4294967296 + 1∨v=y1.toInt * 4294967296 + 1))):=by
 refine oCo #[.val (.ref b10),.val (.int 1),.val (.ref b1),.val (.int 1),.unset,.unset,.unset,.unset,.unset] ?_
 intro p e s m below meth c K
 refine Ye 1 K d11_0 <|Ya 2 K d11_1 <|Yf 1 2 3 K d11_2 ?_
 refine Ym 3 4 K d11_3 <|Yd 1 5 K d11_4 ?_
 refine Y4 2 6 K d11_5 ?_
 refine Yj 8 K d11_6 U4 <|Ye 9 K d11_8 <|Yd 1 10 K d11_9 ?_
 refine Y4 0 11 K d11_10 ?_
 refine Yj 13 K d11_11 U5 <|Ya 14 K d11_13 <|Yf 1 2 15 K d11_14 <|Yd 1 16 K d11_15 ?_
 refine Y4 1 17 K d11_16 ?_
 refine Yj 19 K d11_17 U6 <|Yb 21 K d11_19 ?_
 refine Yw 81 24 K d11_21 <|Ya 25 K d11_24 <|Yb 27 K d11_25 <|Yn 1 1 28 K d11_27 <|Ye 29 K d11_28 ?_
 refine Yk [.int y1,.int 1] [] 0 0 0 32 K (hw 88) (hw 89) (hw 86) (hw 90) (own_of @hw (by omega) (by decide)) (lenOf pd_2 rfl) d11_29 ?_
 rintro _ _ ⟨c1,rfl,tc1,rfl⟩
 simp only [Int32.reduceToInt] at tc1
 refine Gf #[.val (.ref b10),.val (.int 1),.val (.ref b1),.val (.int 1),.val (.int 2),.val (.int 0),.val (.int 1),.val (.long c1),.second] 34 K d11_32 <|Yb 36 K d11_34 ?_
 refine Yw 66 39 K d11_36 <|Ya 40 K d11_39 <|Yb 42 K d11_40 <|Yt 10 0 43 K d11_42 <|Yo 45 K d11_43 ?_
 obtain ⟨v45,ev45⟩:=oE (XT.cmpL g0 c1 : Int32)
 refine Y6 46 K d11_45 ev45 ?_
 refine Y2 66 49 K d11_46 (fun c46=>?_) (fun c46=>?_)
 ·rw [(oLcmp ev45).2.2] at c46
  refine Ya 67 K d11_66 <|Yb 69 K d11_67 ?_
  refine Yg 1 72 K d11_69 U4 <|Yo 74 K d11_72 ?_
  refine Yp 10 2 75 K d11_74 rfl oL2 (S10 T2) ?_
  refine Yg 0 78 K d11_75 U6 <|Yi 19 K d11_78 <|Yb 21 K d11_19 ?_
  refine Yw 81 24 K d11_21 <|Ya 25 K d11_24 <|Yb 27 K d11_25 <|Yn 1 0 28 K d11_27 <|Ye 29 K d11_28 ?_
  refine Yk [.int y0,.int 1] [] 0 0 0 32 K (hw 88) (hw 89) (hw 86) (hw 90) (own_of @hw (by omega) (by decide)) (lenOf pd_2 rfl) d11_29 ?_
  rintro _ _ ⟨c0,rfl,tc0,rfl⟩
  simp only [Int32.reduceToInt] at tc0
  refine Gf #[.val (.ref b10),.val (.int 1),.val (.ref b1),.val (.int 1),.val (.int 1),.val (.int 0),.val (.int 0),.val (.long c0),.second] 34 K d11_32 <|Yb 36 K d11_34 ?_
  refine Yw 66 39 K d11_36 <|Ya 40 K d11_39 <|Yb 42 K d11_40 <|Yt 10 0 43 K d11_42 <|Yo 45 K d11_43 ?_
  obtain ⟨v45_1,ev45_1⟩:=oE (XT.cmpL g0 c0 : Int32)
  refine Y6 46 K d11_45 ev45_1 ?_
  refine Y2 66 49 K d11_46 (fun c46_1=>?_) (fun c46_1=>?_)
  ·rw [(oLcmp ev45_1).2.2] at c46_1
   refine Ya 67 K d11_66 <|Yb 69 K d11_67 ?_
   refine Yg 0 72 K d11_69 U4 <|Yo 74 K d11_72 ?_
   refine Yp 10 1 75 K d11_74 rfl oL1 (S10 T1) ?_
   refine Yg (-1 : Int32) 78 K d11_75 U6 <|Yi 19 K d11_78 <|Yb 21 K d11_19 ?_
   refine Ys 81 24 K d11_21 <|Ye 82 K d11_81 <|Ya 83 K d11_82 <|Yf 1 2 84 K d11_83 ?_
   refine Ym 3 85 K d11_84 ?_
   exact Yq K d11_85 ⟨_,rfl,_,_,_,rfl,rfl,⟨by omega,by omega,trivial⟩,fun v=>by omega⟩
  rw [(oLcmp ev45_1).2.2] at c46_1
  refine Ya 50 K d11_49 <|Yb 52 K d11_50 ?_
  refine Yg 0 55 K d11_52 U4 <|Ya 56 K d11_55 <|Yb 58 K d11_56 ?_
  refine Yg (-1 : Int32) 61 K d11_58 U5 <|Yt 10 0 62 K d11_61 ?_
  refine Yp 10 1 63 K d11_62 rfl oL1 (S10 T1) <|Yi 34 K d11_63 <|Yb 36 K d11_34 ?_
  refine Ys 66 39 K d11_36 <|Ya 67 K d11_66 <|Yb 69 K d11_67 ?_
  refine Yg (-1 : Int32) 72 K d11_69 U4 <|Yo 74 K d11_72 ?_
  refine Yp 10 0 75 K d11_74 rfl oL0 (S10 T0) ?_
  refine Yg (-1 : Int32) 78 K d11_75 U6 <|Yi 19 K d11_78 <|Yb 21 K d11_19 ?_
  refine Ys 81 24 K d11_21 <|Ye 82 K d11_81 <|Ya 83 K d11_82 <|Yf 1 2 84 K d11_83 ?_
  refine Ym 3 85 K d11_84 ?_
  exact Yq K d11_85 ⟨_,rfl,_,_,_,rfl,rfl,⟨by omega,by omega,trivial⟩,fun v=>by omega⟩
 rw [(oLcmp ev45).2.2] at c46
 refine Ya 50 K d11_49 <|Yb 52 K d11_50 ?_
 refine Yg 1 55 K d11_52 U4 <|Ya 56 K d11_55 <|Yb 58 K d11_56 ?_
 refine Yg (-1 : Int32) 61 K d11_58 U5 <|Yt 10 0 62 K d11_61 ?_
 refine Yp 10 2 63 K d11_62 rfl oL2 (S10 T2) <|Yi 34 K d11_63 <|Yb 36 K d11_34 ?_
 refine Ys 66 39 K d11_36 <|Ya 67 K d11_66 <|Yb 69 K d11_67 ?_
 refine Yg 0 72 K d11_69 U4 <|Yo 74 K d11_72 ?_
 refine Yp 10 1 75 K d11_74 rfl oL1 (S10 T1) ?_
 refine Yg 0 78 K d11_75 U6 <|Yi 19 K d11_78 <|Yb 21 K d11_19 ?_
 refine Yw 81 24 K d11_21 <|Ya 25 K d11_24 <|Yb 27 K d11_25 <|Yn 1 0 28 K d11_27 <|Ye 29 K d11_28 ?_
 refine Yk [.int y0,.int 1] [] 0 0 0 32 K (hw 88) (hw 89) (hw 86) (hw 90) (own_of @hw (by omega) (by decide)) (lenOf pd_2 rfl) d11_29 ?_
 rintro _ _ ⟨c0,rfl,tc0,rfl⟩
 simp only [Int32.reduceToInt] at tc0
 refine Gf #[.val (.ref b10),.val (.int 1),.val (.ref b1),.val (.int 1),.val (.int 0),.val (.int (-1)),.val (.int 0),.val (.long c0),.second] 34 K d11_32 <|Yb 36 K d11_34 ?_
 refine Ys 66 39 K d11_36 <|Ya 67 K d11_66 <|Yb 69 K d11_67 ?_
 refine Yg (-1 : Int32) 72 K d11_69 U4 <|Yo 74 K d11_72 ?_
 refine Yp 10 0 75 K d11_74 rfl oL0 (S10 T0) ?_
 refine Yg (-1 : Int32) 78 K d11_75 U6 <|Yi 19 K d11_78 <|Yb 21 K d11_19 ?_
 refine Ys 81 24 K d11_21 <|Ye 82 K d11_81 <|Ya 83 K d11_82 <|Yf 1 2 84 K d11_83 ?_
 refine Ym 3 85 K d11_84 ?_
 exact Yq K d11_85 ⟨_,rfl,_,_,_,rfl,rfl,⟨by omega,by omega,trivial⟩,fun v=>by omega⟩
theorem own_add1_1_12 (hw : oHw a0 Z) {D2 D9 D11 D12 D13 : oDsc} {f_dl f_wi f_cc f_rc f_hd f_ea : Value} {g0 : Int64} {x0 y0 y1 : Int32} (hy0 : 1≤y0.toInt∧y0.toInt≤100000) (hy1 : 1≤y1.toInt∧y1.toInt≤100000) (hy0y1 : y0.toInt < y1.toInt) (hch : oCh [g0]) (hne00 : g0.toInt ≠ y0.toInt * 4294967296 + 1) (hne01 : g0.toInt ≠ y1.toInt * 4294967296 + 1) :
  oCtr l Z h0 [] nM29 prog_7_method_3_code 5 none (oR 2 3 24 90) #[.ref b3,.int 1,.ref b1] [(b0,.inl (.int,[.int x0])),(b1,.inl (.int,[.int y0,.int y1])),(b2,D2),(b3,oP b10 b13 b11 b12 b4 b5 b6 b7 b8 b9 (.int 1) (.ref b0) (.int 1) (.int 1) f_dl f_wi f_cc f_rc f_hd f_ea),(b4,.inl (.boolean,[.int 1,.int 0,.int 0])),(b5,.inl (.int,[.int 0,.int 0,.int 0])),(b6,.inl (.int,[.int 0,.int 2147483647,.int 2147483647])),(b7,.inl (.int,[.int 0,.int 0,.int 0])),(b8,.inl (.array .int,[.ref b0,.null,.null])),(b9,D9),(b10,.inl (.long,[.long g0])),(b11,D11),(b12,D12),(b13,D13)] (oVoid fun d=>∃ (b10' b11' b12' : Addr) (z0 z1 z2 : Int64),d=[(b0,.inl (.int,[.int x0])),(b1,.inl (.int,[.int y0,.int y1])),(b2,D2),(b3,oP b10' b13 b11' b12' b4 b5 b6 b7 b8 b9 (.int 2) (.ref b0) (.int 2) (.int 3) f_dl f_wi f_cc f_rc f_hd f_ea),(b4,.inl (.boolean,[.int 1,.int 1,.int 0])),(b5,.inl (.int,[.int 0,.int 1,.int 0])),(b6,.inl (.int,[.int 0,.int 1,.int 2147483647])),(b7,.inl (.int,[.int 0,.int 1,.int 0])),(b8,.inl (.array .int,[.ref b0,.ref b1,.null])),(b9,D9),(b10',.inl (.long,[.long z0,.long z1,.long z2])),(b11',.inl (.long,[.long 0,.long 0,.long 0])),(b12',.inl (.int,[.int 0,.int 0,.int 0])),(b13,D13)]∧oCh [z0,z1,z2]∧∀ v : Int,(v=z0.toInt∨v=z1.toInt∨v=z2.toInt) ↔ ((v=g0.toInt)∨(v=y0.toInt * 4294967296 + 1∨v=y1.toInt * 4294967296 + 1))):=by
 refine oCo #[.val (.ref b3),.val (.int 1),.val (.ref b1),.unset,.unset] ?_
 intro p e s m below meth c K
 refine Ya 1 K d8_0 <|Yc 3 6 4 K (hw 32) d8_1 <|Ye 5 K d8_4 <|Ya 6 K d8_5 <|Yc 3 10 9 K (hw 57) d8_6 ?_
 refine Yr 6 1 10 K d8_9 rfl (S6 T1) <|Ya 11 K d8_10 <|Yc 3 7 14 K (hw 39) d8_11 <|Ya 15 K d8_14 <|Yc 3 10 18 K (hw 57) d8_15 <|Ye 19 K d8_18 ?_
 refine Yr 7 1 20 K d8_19 rfl (S7 T1) <|Ya 21 K d8_20 <|Yc 3 8 24 K (hw 43) d8_21 <|Ya 25 K d8_24 <|Yc 3 10 28 K (hw 57) d8_25 <|Ya 29 K d8_28 ?_
 refine Go 8 1 1 30 K d8_29 rfl (S8 T1) <|Ya 31 K d8_30 ?_
 refine Yv 32 K d8_31 <|Yc 3 10 35 K (hw 57) d8_32 <|Yd 1 36 K d8_35 ?_
 refine Ym 2 37 K d8_36 ?_
 refine Yl 3 10 .int 40 K (hw 57) (Or.inl (hw 58)) (hw 10) (oAp_0 @hw) d8_37 rfl rfl (P3 F10) <|Ya 41 K d8_40 <|Yc 3 4 44 K (hw 28) d8_41 <|Ye 45 K d8_44 <|Gn 4 1 46 K d8_45 ?_
 refine Gc 149 49 K d8_46 <|Ya 50 K d8_49 <|Yc 3 4 53 K (hw 28) d8_50 <|Ye 54 K d8_53 <|Yd 1 55 K d8_54 ?_
 refine Gy 4 1 (.int (1 : Int32)) 56 K d8_55 rfl (S4 T1) <|Ya 57 K d8_56 <|Yc 3 5 60 K (hw 30) d8_57 <|Ya 61 K d8_60 ?_
 refine Yv 62 K d8_61 <|Yc 3 12 65 K (hw 61) d8_62 ?_
 refine Gg 66 K d8_65 <|Yd 1 67 K d8_66 ?_
 refine Ym 2 68 K d8_67 ?_
 refine Yl 3 12 .int 71 K (hw 61) (Or.inl (hw 62)) (hw 10) (oAp_0 @hw) d8_68 rfl rfl (P3 F12) <|Ye 72 K d8_71 ?_
 refine Yr 5 1 73 K d8_72 rfl (S5 T1) <|Ya 74 K d8_73 <|Yc 3 13 77 K (hw 63) d8_74 <|Ya 78 K d8_77 <|Yf 1 2 79 K d8_78 ?_
 refine Ym 3 80 K d8_79 ?_
 refine Yz 81 K d8_80 U3 <|Ya 82 K d8_81 <|Yc 3 0 85 K (hw 19) d8_82 <|Yf 10 1 86 K d8_85 <|Ye 87 K d8_86 ?_
 refine Yy 132 90 K d8_87 <|Ye 91 K d8_90 <|Yd 2 92 K d8_91 <|Ya 93 K d8_92 <|Yc 3 0 96 K (hw 19) d8_93 <|Yf 10 1 97 K d8_96 ?_
 refine Gq 2 98 K d8_97 ?_
 refine Yk [.int 3,.int 2] [] 0 0 0 101 K (hw 73) (hw 6) (hw 7) (hw 8) (own_max @hw) (lenOf pd_9 rfl) d8_98 ?_
 rintro _ _ ⟨mz,rfl,hmz,rfl⟩
 obtain rfl : mz=(3 : Int32):=oEq32.mpr (hmz.trans (by decide))
 refine Yj 103 K d8_101 U4 <|Ya 104 K d8_103 <|Ya 105 K d8_104 <|Yc 3 0 108 K (hw 19) d8_105 <|Yb 110 K d8_108 ?_
 refine Yk [.ref b10,.int 3] [.ref b3] 1 1 3 113 K (hw 74) (hw 75) (hw 37) (hw 76) (own_copy_1_3 @hw) (lenOf pd_13 rfl) d8_110 ?_
 rintro _ _ ⟨b14,rfl,rfl⟩
 refine Yl 3 0 (.array .long) 116 K (hw 19) (Or.inl (hw 20)) (hw 10) (oAp_0 @hw) d8_113 rfl rfl (P3 F0) <|Ya 117 K d8_116 <|Yb 119 K d8_117 ?_
 refine Y3 3 2 6 121 K (hw 18) d8_119 (N15 (.inl (.long,[.long 0,.long 0,.long 0]))) ?_
 intro a119 ha119
 refine Yl 3 2 (.array .long) 124 K (hw 23) (Or.inl (hw 24)) (hw 10) (oAp_0 @hw) d8_121 rfl rfl (P3 F2) <|Ya 125 K d8_124 <|Yb 127 K d8_125 ?_
 refine Y3 3 3 9 129 K (hw 4) d8_127 (N16 (.inl (.int,[.int 0,.int 0,.int 0]))) ?_
 intro a127 ha127
 refine Yl 3 3 (.array .int) 132 K (hw 25) (Or.inl (hw 26)) (hw 10) (oAp_0 @hw) d8_129 rfl rfl (P3 F3) ?_
 refine oPk1 ?_
 refine Ya 133 K d8_132 <|Ya 134 K d8_133 <|Yc 3 0 137 K (hw 19) d8_134 <|Ya 138 K d8_137 <|Yc 3 13 141 K (hw 63) d8_138 <|Ya 142 K d8_141 <|Ye 143 K d8_142 ?_
 refine Yk [.ref b14,.int 1,.ref b1,.int 1] [.ref b3] 1 3 9 146 K (hw 84) (hw 85) (hw 86) (hw 87) (own_aw_1_1_2 @hw (by omega) (by omega) (by omega) hch hne00 hne01) (lenOf pd_14 rfl) d8_143 ?_
 rintro _ _ ⟨z0,z1,z2,rfl,rfl,hz1,hz2⟩
 refine Yl 3 13 .int 149 K (hw 63) (Or.inl (hw 64)) (hw 10) (oAp_0 @hw) d8_146 rfl rfl (P3 F13) <|Ya 150 K d8_149 <|Yc 3 11 153 K (hw 59) d8_150 ?_
 refine Hl 156 K d8_153 <|Yd 2 157 K d8_156 <|Ya 158 K d8_157 <|Yf 1 2 159 K d8_158 ?_
 refine Gq 4 160 K d8_159 <|Ya 161 K d8_160 <|Yc 3 11 164 K (hw 59) d8_161 <|Yf 0 1 165 K d8_164 ?_
 refine Hb 178 168 K d8_165 ?_
 exact Ga K d8_178 ⟨rfl,_,_,_,_,_,_,rfl,hz1,hz2⟩
theorem own_add2_1_12 (hw : oHw a0 Z) {D0 D2 D5 D9 D10 D11 D12 D13 : oDsc} {f_mc f_cn f_dl f_wi f_cc f_rc f_hd f_ea : Value} {y0 y1 : Int32} :
  oCtr l Z h0 [] nM29 prog_7_method_3_code 5 none (oR 2 3 24 90) #[.ref b3,.int 1,.ref b1] [(b0,D0),(b1,.inl (.int,[.int y0,.int y1])),(b2,D2),(b3,oP b10 b13 b11 b12 b4 b5 b6 b7 b8 b9 (.int 0) .null f_mc f_cn f_dl f_wi f_cc f_rc f_hd f_ea),(b4,.inl (.boolean,[.int 1,.int 1,.int 0])),(b5,D5),(b6,.inl (.int,[.int 2147483647,.int 2147483647,.int 2147483647])),(b7,.inl (.int,[.int 0,.int 1,.int 0])),(b8,.inl (.array .int,[.null,.null,.null])),(b9,D9),(b10,D10),(b11,D11),(b12,D12),(b13,D13)] (oVoid fun d=>d=[(b0,D0),(b1,.inl (.int,[.int y0,.int y1])),(b2,D2),(b3,oP b10 b13 b11 b12 b4 b5 b6 b7 b8 b9 (.int 1) (.ref b1) f_mc f_cn f_dl (.int 0) f_cc f_rc f_hd f_ea),(b4,.inl (.boolean,[.int 1,.int 1,.int 0])),(b5,D5),(b6,.inl (.int,[.int 2147483647,.int 0,.int 2147483647])),(b7,.inl (.int,[.int 1,.int 1,.int 0])),(b8,.inl (.array .int,[.ref b1,.null,.null])),(b9,D9),(b10,D10),(b11,D11),(b12,D12),(b13,D13)]):=by
 refine oCo #[.val (.ref b3),.val (.int 1),.val (.ref b1),.unset,.unset] ?_
 intro p e s m below meth c K
 refine Ya 1 K d8_0 <|Yc 3 6 4 K (hw 32) d8_1 <|Ye 5 K d8_4 <|Ya 6 K d8_5 <|Yc 3 10 9 K (hw 57) d8_6 ?_
 refine Yr 6 1 10 K d8_9 rfl (S6 T1) <|Ya 11 K d8_10 <|Yc 3 7 14 K (hw 39) d8_11 <|Ya 15 K d8_14 <|Yc 3 10 18 K (hw 57) d8_15 <|Ye 19 K d8_18 ?_
 refine Yr 7 0 20 K d8_19 rfl (S7 T0) <|Ya 21 K d8_20 <|Yc 3 8 24 K (hw 43) d8_21 <|Ya 25 K d8_24 <|Yc 3 10 28 K (hw 57) d8_25 <|Ya 29 K d8_28 ?_
 refine Go 8 1 0 30 K d8_29 rfl (S8 T0) <|Ya 31 K d8_30 ?_
 refine Yv 32 K d8_31 <|Yc 3 10 35 K (hw 57) d8_32 <|Yd 1 36 K d8_35 ?_
 refine Ym 1 37 K d8_36 ?_
 refine Yl 3 10 .int 40 K (hw 57) (Or.inl (hw 58)) (hw 10) (oAp_0 @hw) d8_37 rfl rfl (P3 F10) <|Ya 41 K d8_40 <|Yc 3 4 44 K (hw 28) d8_41 <|Ye 45 K d8_44 <|Gn 4 1 46 K d8_45 ?_
 refine Hi 149 49 K d8_46 <|Ya 150 K d8_149 <|Yc 3 11 153 K (hw 59) d8_150 ?_
 refine Gw 168 K d8_153 <|Ya 169 K d8_168 <|Ya 170 K d8_169 ?_
 refine Yl 3 11 (.array .int) 173 K (hw 59) (Or.inl (hw 60)) (hw 10) (oAp_0 @hw) d8_170 rfl rfl (P3 F11) <|Ya 174 K d8_173 <|Yd 0 175 K d8_174 ?_
 refine Yl 3 15 .int 178 K (hw 91) (Or.inl (hw 92)) (hw 10) (oAp_0 @hw) d8_175 rfl rfl (P3 F15) ?_
 exact Ga K d8_178 ⟨rfl,rfl⟩
theorem own_copy_3_6 (hw : oHw a0 Z) {D0 D1 D2 D3 D4 D5 D6 D7 D8 D9 D11 D12 D13 : oDsc} {g0 g1 g2 : Int64} :
  oCtr l Z h0 [] nM27 jdk_65_method_124_code 3 (some (.array .long)) (oR 1 1 6 48) #[.ref b10,.int 6] [(b0,D0),(b1,D1),(b2,D2),(b3,D3),(b4,D4),(b5,D5),(b6,D6),(b7,D7),(b8,D8),(b9,D9),(b10,.inl (.long,[.long g0,.long g1,.long g2])),(b11,D11),(b12,D12),(b13,D13)] (oVal fun w d=>∃ b14 : Addr,w=.ref b14∧d=[(b0,D0),(b1,D1),(b2,D2),(b3,D3),(b4,D4),(b5,D5),(b6,D6),(b7,D7),(b8,D8),(b9,D9),(b10,.inl (.long,[.long g0,.long g1,.long g2])),(b11,D11),(b12,D12),(b13,D13),(b14,.inl (.long,[.long g0,.long g1,.long g2,.long 0,.long 0,.long 0]))]):=by
 refine oCo #[.val (.ref b10),.val (.int 6),.unset] ?_
 intro p e s m below meth c K
 refine Ye 1 K d9_0 <|Ya 2 K d9_1 <|Yf 10 3 3 K d9_2 ?_
 refine Gj 14 6 K d9_3 <|Ye 15 K d9_14 ?_
 refine Y3 6 1 6 17 K (hw 18) d9_15 (N14 (.inl (.long,[.long 0,.long 0,.long 0,.long 0,.long 0,.long 0]))) ?_
 intro a15 ha15
 refine Gl 18 K d9_17 U2 <|Ya 19 K d9_18 <|Yd 0 20 K d9_19 <|Ya 21 K d9_20 <|Yd 0 22 K d9_21 <|Ya 23 K d9_22 <|Yf 10 3 24 K d9_23 <|Ye 25 K d9_24 ?_
 refine Yk [.int 3,.int 6] [.int 0,.ref a15,.int 0,.ref b10] 4 1 6 28 K (hw 77) (hw 78) (hw 7) (hw 79) (own_min @hw) (lenOf pd_9 rfl) d9_25 ?_
 rintro _ _ ⟨mz,rfl,hmz,rfl⟩
 obtain rfl : mz=(3 : Int32):=oEq32.mpr (hmz.trans (by decide))
 refine oW.copyJ (W:=0) (i1:=10) (i2:=14) (xs:=[g0,g1,g2]) (us:=[0,0,0,0,0,0]) (ds':=[(b0,D0),(b1,D1),(b2,D2),(b3,D3),(b4,D4),(b5,D5),(b6,D6),(b7,D7),(b8,D8),(b9,D9),(b10,.inl (.long,[.long g0,.long g1,.long g2])),(b11,D11),(b12,D12),(b13,D13),(a15,.inl (.long,[.long g0,.long g1,.long g2,.long 0,.long 0,.long 0]))]) (pc':=31) K (hw 80) (hw 83) (hw 81) (hw 82) d9_28 rfl rfl rfl rfl rfl (Nat.le_of_ble_eq_true rfl) (by decide) rfl rfl (by decide) (Nat.le_of_eq rfl) (by decide) rfl ?_
 refine Ya 32 K d9_31 ?_
 exact G0 K d9_32 ⟨_,rfl,_,rfl,rfl⟩
theorem own_aw_2_3_1 (hw : oHw a0 Z) {D0 D1 D3 D4 D5 D6 D7 D8 D9 D11 D12 D13 : oDsc} {g0 g1 g2 t0 : Int64} {rt : List Value} {y0 : Int32} (hy0 : 1≤y0.toInt∧y0.toInt≤100000) (hch : oCh [g0,g1,g2]) (hne00 : g0.toInt ≠ y0.toInt * 4294967296 + 2) (hne10 : g1.toInt ≠ y0.toInt * 4294967296 + 2) (hne20 : g2.toInt ≠ y0.toInt * 4294967296 + 2) :
  oCtr l Z h0 [] nM28 prog_6_method_3_code 9 (some .int) (oR 1 0 0 24) #[.ref b10,.int 3,.ref b2,.int 2] [(b0,D0),(b1,D1),(b2,.inl (.int,[.int y0])),(b3,D3),(b4,D4),(b5,D5),(b6,D6),(b7,D7),(b8,D8),(b9,D9),(b10,.inl (.long,(.long g0)::(.long g1)::(.long g2)::(.long t0)::rt)),(b11,D11),(b12,D12),(b13,D13)] (oVal fun w d=>∃ (z0 z1 z2 z3 : Int64),w=.int 4∧d=[(b0,D0),(b1,D1),(b2,.inl (.int,[.int y0])),(b3,D3),(b4,D4),(b5,D5),(b6,D6),(b7,D7),(b8,D8),(b9,D9),(b10,.inl (.long,(.long z0)::(.long z1)::(.long z2)::(.long z3)::rt)),(b11,D11),(b12,D12),(b13,D13)]∧oCh [z0,z1,z2,z3]∧∀ v : Int,(v=z0.toInt∨v=z1.toInt∨v=z2.toInt∨v=z3.toInt) ↔ ((v=g0.toInt∨v=g1.toInt∨v=g2.toInt)∨(v=y0.toInt * 4294967296 + 2))):=by
 refine oCo #[.val (.ref b10),.val (.int 3),.val (.ref b2),.val (.int 2),.unset,.unset,.unset,.unset,.unset] ?_
 intro p e s m below meth c K
 simp only [oCh,and_true] at hch
 refine Ye 1 K d11_0 <|Ya 2 K d11_1 <|Yf 2 1 3 K d11_2 ?_
 refine Ym 4 4 K d11_3 <|Yd 1 5 K d11_4 ?_
 refine Y4 3 6 K d11_5 ?_
 refine Yj 8 K d11_6 U4 <|Ye 9 K d11_8 <|Yd 1 10 K d11_9 ?_
 refine Y4 2 11 K d11_10 ?_
 refine Yj 13 K d11_11 U5 <|Ya 14 K d11_13 <|Yf 2 1 15 K d11_14 <|Yd 1 16 K d11_15 ?_
 refine Y4 0 17 K d11_16 ?_
 refine Yj 19 K d11_17 U6 <|Yb 21 K d11_19 ?_
 refine Yw 81 24 K d11_21 <|Ya 25 K d11_24 <|Yb 27 K d11_25 <|Yn 2 0 28 K d11_27 <|Ye 29 K d11_28 ?_
 refine Yk [.int y0,.int 2] [] 0 0 0 32 K (hw 88) (hw 89) (hw 86) (hw 90) (own_of @hw (by omega) (by decide)) (lenOf pd_2 rfl) d11_29 ?_
 rintro _ _ ⟨c0,rfl,tc0,rfl⟩
 simp only [Int32.reduceToInt] at tc0
 refine Gf #[.val (.ref b10),.val (.int 3),.val (.ref b2),.val (.int 2),.val (.int 3),.val (.int 2),.val (.int 0),.val (.long c0),.second] 34 K d11_32 <|Yb 36 K d11_34 ?_
 refine Yw 66 39 K d11_36 <|Ya 40 K d11_39 <|Yb 42 K d11_40 <|Yt 10 2 43 K d11_42 <|Yo 45 K d11_43 ?_
 obtain ⟨v45,ev45⟩:=oE (XT.cmpL g2 c0 : Int32)
 refine Y6 46 K d11_45 ev45 ?_
 refine Y2 66 49 K d11_46 (fun c46=>?_) (fun c46=>?_)
 ·rw [(oLcmp ev45).2.2] at c46
  refine Ya 67 K d11_66 <|Yb 69 K d11_67 ?_
  refine Yg 2 72 K d11_69 U4 <|Yo 74 K d11_72 ?_
  refine Yp 10 3 75 K d11_74 rfl oL3 (S10 T3) ?_
  refine Yg (-1 : Int32) 78 K d11_75 U6 <|Yi 19 K d11_78 <|Yb 21 K d11_19 ?_
  refine Ys 81 24 K d11_21 <|Ye 82 K d11_81 <|Ya 83 K d11_82 <|Yf 2 1 84 K d11_83 ?_
  refine Ym 4 85 K d11_84 ?_
  exact Yq K d11_85 ⟨_,rfl,_,_,_,_,rfl,rfl,⟨by omega,by omega,by omega,trivial⟩,fun v=>by omega⟩
 rw [(oLcmp ev45).2.2] at c46
 refine Ya 50 K d11_49 <|Yb 52 K d11_50 ?_
 refine Yg 2 55 K d11_52 U4 <|Ya 56 K d11_55 <|Yb 58 K d11_56 ?_
 refine Yg 1 61 K d11_58 U5 <|Yt 10 2 62 K d11_61 ?_
 refine Yp 10 3 63 K d11_62 rfl oL3 (S10 T3) <|Yi 34 K d11_63 <|Yb 36 K d11_34 ?_
 refine Yw 66 39 K d11_36 <|Ya 40 K d11_39 <|Yb 42 K d11_40 <|Yt 10 1 43 K d11_42 <|Yo 45 K d11_43 ?_
 obtain ⟨v45_1,ev45_1⟩:=oE (XT.cmpL g1 c0 : Int32)
 refine Y6 46 K d11_45 ev45_1 ?_
 refine Y2 66 49 K d11_46 (fun c46_1=>?_) (fun c46_1=>?_)
 ·rw [(oLcmp ev45_1).2.2] at c46_1
  refine Ya 67 K d11_66 <|Yb 69 K d11_67 ?_
  refine Yg 1 72 K d11_69 U4 <|Yo 74 K d11_72 ?_
  refine Yp 10 2 75 K d11_74 rfl oL2 (S10 T2) ?_
  refine Yg (-1 : Int32) 78 K d11_75 U6 <|Yi 19 K d11_78 <|Yb 21 K d11_19 ?_
  refine Ys 81 24 K d11_21 <|Ye 82 K d11_81 <|Ya 83 K d11_82 <|Yf 2 1 84 K d11_83 ?_
  refine Ym 4 85 K d11_84 ?_
  exact Yq K d11_85 ⟨_,rfl,_,_,_,_,rfl,rfl,⟨by omega,by omega,by omega,trivial⟩,fun v=>by omega⟩
 rw [(oLcmp ev45_1).2.2] at c46_1
 refine Ya 50 K d11_49 <|Yb 52 K d11_50 ?_
 refine Yg 1 55 K d11_52 U4 <|Ya 56 K d11_55 <|Yb 58 K d11_56 ?_
 refine Yg 0 61 K d11_58 U5 <|Yt 10 1 62 K d11_61 ?_
 refine Yp 10 2 63 K d11_62 rfl oL2 (S10 T2) <|Yi 34 K d11_63 <|Yb 36 K d11_34 ?_
 refine Yw 66 39 K d11_36 <|Ya 40 K d11_39 <|Yb 42 K d11_40 <|Yt 10 0 43 K d11_42 <|Yo 45 K d11_43 ?_
 obtain ⟨v45_2,ev45_2⟩:=oE (XT.cmpL g0 c0 : Int32)
 refine Y6 46 K d11_45 ev45_2 ?_
 refine Y2 66 49 K d11_46 (fun c46_2=>?_) (fun c46_2=>?_)
 ·rw [(oLcmp ev45_2).2.2] at c46_2
  refine Ya 67 K d11_66 <|Yb 69 K d11_67 ?_
  refine Yg 0 72 K d11_69 U4 <|Yo 74 K d11_72 ?_
  refine Yp 10 1 75 K d11_74 rfl oL1 (S10 T1) ?_
  refine Yg (-1 : Int32) 78 K d11_75 U6 <|Yi 19 K d11_78 <|Yb 21 K d11_19 ?_
  refine Ys 81 24 K d11_21 <|Ye 82 K d11_81 <|Ya 83 K d11_82 <|Yf 2 1 84 K d11_83 ?_
  refine Ym 4 85 K d11_84 ?_
  exact Yq K d11_85 ⟨_,rfl,_,_,_,_,rfl,rfl,⟨by omega,by omega,by omega,trivial⟩,fun v=>by omega⟩
 rw [(oLcmp ev45_2).2.2] at c46_2
 refine Ya 50 K d11_49 <|Yb 52 K d11_50 ?_
 refine Yg 0 55 K d11_52 U4 <|Ya 56 K d11_55 <|Yb 58 K d11_56 ?_
 refine Yg (-1 : Int32) 61 K d11_58 U5 <|Yt 10 0 62 K d11_61 ?_
 refine Yp 10 1 63 K d11_62 rfl oL1 (S10 T1) <|Yi 34 K d11_63 <|Yb 36 K d11_34 ?_
 refine Ys 66 39 K d11_36 <|Ya 67 K d11_66 <|Yb 69 K d11_67 ?_
 refine Yg (-1 : Int32) 72 K d11_69 U4 <|Yo 74 K d11_72 ?_
 refine Yp 10 0 75 K d11_74 rfl oL0 (S10 T0) ?_
 refine Yg (-1 : Int32) 78 K d11_75 U6 <|Yi 19 K d11_78 <|Yb 21 K d11_19 ?_
 refine Ys 81 24 K d11_21 <|Ye 82 K d11_81 <|Ya 83 K d11_82 <|Yf 2 1 84 K d11_83 ?_
 refine Ym 4 85 K d11_84 ?_
 exact Yq K d11_85 ⟨_,rfl,_,_,_,_,rfl,rfl,⟨by omega,by omega,by omega,trivial⟩,fun v=>by omega⟩
theorem own_add3_2_121 (hw : oHw a0 Z) {D0 D1 D9 D11 D12 D13 : oDsc} {f_dl f_wi f_cc f_rc f_hd f_ea : Value} {g0 g1 g2 : Int64} {u0 : Int32} (hu0 : 1≤u0.toInt∧u0.toInt≤100000) (hch : oCh [g0,g1,g2]) (hne00 : g0.toInt ≠ u0.toInt * 4294967296 + 2) (hne10 : g1.toInt ≠ u0.toInt * 4294967296 + 2) (hne20 : g2.toInt ≠ u0.toInt * 4294967296 + 2) :
  oCtr l Z h0 [] nM29 prog_7_method_3_code 5 none (oR 2 3 24 90) #[.ref b3,.int 2,.ref b2] [(b0,D0),(b1,D1),(b2,.inl (.int,[.int u0])),(b3,oP b10 b13 b11 b12 b4 b5 b6 b7 b8 b9 (.int 0) .null (.int 2) (.int 3) f_dl f_wi f_cc f_rc f_hd f_ea),(b4,.inl (.boolean,[.int 1,.int 1,.int 0])),(b5,.inl (.int,[.int 0,.int 1,.int 0])),(b6,.inl (.int,[.int 2147483647,.int 2147483647,.int 2147483647])),(b7,.inl (.int,[.int 0,.int 1,.int 0])),(b8,.inl (.array .int,[.null,.null,.null])),(b9,D9),(b10,.inl (.long,[.long g0,.long g1,.long g2])),(b11,D11),(b12,D12),(b13,D13)] (oVoid fun d=>∃ (b10' b11' b12' : Addr) (z0 z1 z2 z3 : Int64),d=[(b0,D0),(b1,D1),(b2,.inl (.int,[.int u0])),(b3,oP b10' b13 b11' b12' b4 b5 b6 b7 b8 b9 (.int 1) (.ref b2) (.int 3) (.int 4) f_dl (.int 0) f_cc f_rc f_hd f_ea),(b4,.inl (.boolean,[.int 1,.int 1,.int 1])),(b5,.inl (.int,[.int 0,.int 1,.int 2])),(b6,.inl (.int,[.int 2147483647,.int 2147483647,.int 0])),(b7,.inl (.int,[.int 2,.int 1,.int 0])),(b8,.inl (.array .int,[.ref b2,.null,.null])),(b9,D9),(b10',.inl (.long,[.long z0,.long z1,.long z2,.long z3,.long 0,.long 0])),(b11',.inl (.long,[.long 0,.long 0,.long 0,.long 0,.long 0,.long 0])),(b12',.inl (.int,[.int 0,.int 0,.int 0,.int 0,.int 0,.int 0])),(b13,D13)]∧oCh [z0,z1,z2,z3]∧∀ v : Int,(v=z0.toInt∨v=z1.toInt∨v=z2.toInt∨v=z3.toInt) ↔ ((v=g0.toInt∨v=g1.toInt∨v=g2.toInt)∨(v=u0.toInt * 4294967296 + 2))):=by
 refine oCo #[.val (.ref b3),.val (.int 2),.val (.ref b2),.unset,.unset] ?_
 intro p e s m below meth c K
 refine Ya 1 K d8_0 <|Yc 3 6 4 K (hw 32) d8_1 <|Ye 5 K d8_4 <|Ya 6 K d8_5 <|Yc 3 10 9 K (hw 57) d8_6 ?_
 refine Yr 6 2 10 K d8_9 rfl (S6 T2) <|Ya 11 K d8_10 <|Yc 3 7 14 K (hw 39) d8_11 <|Ya 15 K d8_14 <|Yc 3 10 18 K (hw 57) d8_15 <|Ye 19 K d8_18 ?_
 refine Yr 7 0 20 K d8_19 rfl (S7 T0) <|Ya 21 K d8_20 <|Yc 3 8 24 K (hw 43) d8_21 <|Ya 25 K d8_24 <|Yc 3 10 28 K (hw 57) d8_25 <|Ya 29 K d8_28 ?_
 refine Go 8 2 0 30 K d8_29 rfl (S8 T0) <|Ya 31 K d8_30 ?_
 refine Yv 32 K d8_31 <|Yc 3 10 35 K (hw 57) d8_32 <|Yd 1 36 K d8_35 ?_
 refine Ym 1 37 K d8_36 ?_
 refine Yl 3 10 .int 40 K (hw 57) (Or.inl (hw 58)) (hw 10) (oAp_0 @hw) d8_37 rfl rfl (P3 F10) <|Ya 41 K d8_40 <|Yc 3 4 44 K (hw 28) d8_41 <|Ye 45 K d8_44 <|Gn 4 2 46 K d8_45 ?_
 refine Gc 149 49 K d8_46 <|Ya 50 K d8_49 <|Yc 3 4 53 K (hw 28) d8_50 <|Ye 54 K d8_53 <|Yd 1 55 K d8_54 ?_
 refine Gy 4 2 (.int (1 : Int32)) 56 K d8_55 rfl (S4 T2) <|Ya 57 K d8_56 <|Yc 3 5 60 K (hw 30) d8_57 <|Ya 61 K d8_60 ?_
 refine Yv 62 K d8_61 <|Yc 3 12 65 K (hw 61) d8_62 ?_
 refine Gg 66 K d8_65 <|Yd 1 67 K d8_66 ?_
 refine Ym 3 68 K d8_67 ?_
 refine Yl 3 12 .int 71 K (hw 61) (Or.inl (hw 62)) (hw 10) (oAp_0 @hw) d8_68 rfl rfl (P3 F12) <|Ye 72 K d8_71 ?_
 refine Yr 5 2 73 K d8_72 rfl (S5 T2) <|Ya 74 K d8_73 <|Yc 3 13 77 K (hw 63) d8_74 <|Ya 78 K d8_77 <|Yf 2 1 79 K d8_78 ?_
 refine Ym 4 80 K d8_79 ?_
 refine Yz 81 K d8_80 U3 <|Ya 82 K d8_81 <|Yc 3 0 85 K (hw 19) d8_82 <|Yf 10 3 86 K d8_85 <|Ye 87 K d8_86 ?_
 refine Yy 132 90 K d8_87 <|Ye 91 K d8_90 <|Yd 2 92 K d8_91 <|Ya 93 K d8_92 <|Yc 3 0 96 K (hw 19) d8_93 <|Yf 10 3 97 K d8_96 ?_
 refine Gq 6 98 K d8_97 ?_
 refine Yk [.int 4,.int 6] [] 0 0 0 101 K (hw 73) (hw 6) (hw 7) (hw 8) (own_max @hw) (lenOf pd_9 rfl) d8_98 ?_
 rintro _ _ ⟨mz,rfl,hmz,rfl⟩
 obtain rfl : mz=(6 : Int32):=oEq32.mpr (hmz.trans (by decide))
 refine Yj 103 K d8_101 U4 <|Ya 104 K d8_103 <|Ya 105 K d8_104 <|Yc 3 0 108 K (hw 19) d8_105 <|Yb 110 K d8_108 ?_
 refine Yk [.ref b10,.int 6] [.ref b3] 1 1 6 113 K (hw 74) (hw 75) (hw 37) (hw 76) (own_copy_3_6 @hw) (lenOf pd_13 rfl) d8_110 ?_
 rintro _ _ ⟨b14,rfl,rfl⟩
 refine Yl 3 0 (.array .long) 116 K (hw 19) (Or.inl (hw 20)) (hw 10) (oAp_0 @hw) d8_113 rfl rfl (P3 F0) <|Ya 117 K d8_116 <|Yb 119 K d8_117 ?_
 refine Y3 6 2 12 121 K (hw 18) d8_119 (N15 (.inl (.long,[.long 0,.long 0,.long 0,.long 0,.long 0,.long 0]))) ?_
 intro a119 ha119
 refine Yl 3 2 (.array .long) 124 K (hw 23) (Or.inl (hw 24)) (hw 10) (oAp_0 @hw) d8_121 rfl rfl (P3 F2) <|Ya 125 K d8_124 <|Yb 127 K d8_125 ?_
 refine Y3 6 3 18 129 K (hw 4) d8_127 (N16 (.inl (.int,[.int 0,.int 0,.int 0,.int 0,.int 0,.int 0]))) ?_
 intro a127 ha127
 refine Yl 3 3 (.array .int) 132 K (hw 25) (Or.inl (hw 26)) (hw 10) (oAp_0 @hw) d8_129 rfl rfl (P3 F3) ?_
 refine oPk1 ?_
 refine Ya 133 K d8_132 <|Ya 134 K d8_133 <|Yc 3 0 137 K (hw 19) d8_134 <|Ya 138 K d8_137 <|Yc 3 13 141 K (hw 63) d8_138 <|Ya 142 K d8_141 <|Ye 143 K d8_142 ?_
 refine Yk [.ref b14,.int 3,.ref b2,.int 2] [.ref b3] 1 3 18 146 K (hw 84) (hw 85) (hw 86) (hw 87) (own_aw_2_3_1 @hw (by omega) hch hne00 hne10 hne20) (lenOf pd_14 rfl) d8_143 ?_
 rintro _ _ ⟨z0,z1,z2,z3,rfl,rfl,hz1,hz2⟩
 refine Yl 3 13 .int 149 K (hw 63) (Or.inl (hw 64)) (hw 10) (oAp_0 @hw) d8_146 rfl rfl (P3 F13) <|Ya 150 K d8_149 <|Yc 3 11 153 K (hw 59) d8_150 ?_
 refine Gw 168 K d8_153 <|Ya 169 K d8_168 <|Ya 170 K d8_169 ?_
 refine Yl 3 11 (.array .int) 173 K (hw 59) (Or.inl (hw 60)) (hw 10) (oAp_0 @hw) d8_170 rfl rfl (P3 F11) <|Ya 174 K d8_173 <|Yd 0 175 K d8_174 ?_
 refine Yl 3 15 .int 178 K (hw 91) (Or.inl (hw 92)) (hw 10) (oAp_0 @hw) d8_175 rfl rfl (P3 F15) ?_
 exact Ga K d8_178 ⟨rfl,_,_,_,_,_,_,_,rfl,hz1,hz2⟩
theorem own_aw_2_3_2 (hw : oHw a0 Z) {D0 D1 D3 D4 D5 D6 D7 D8 D9 D11 D12 D13 : oDsc} {g0 g1 g2 t0 t1 : Int64} {rt : List Value} {y0 y1 : Int32} (hy0 : 1≤y0.toInt∧y0.toInt≤100000) (hy1 : 1≤y1.toInt∧y1.toInt≤100000) (hy0y1 : y0.toInt < y1.toInt) (hch : oCh [g0,g1,g2]) (hne00 : g0.toInt ≠ y0.toInt * 4294967296 + 2) (hne01 : g0.toInt ≠ y1.toInt * 4294967296 + 2) (hne10 : g1.toInt ≠ y0.toInt * 4294967296 + 2) (hne11 : g1.toInt ≠ y1.toInt * 4294967296 + 2) (hne20 : g2.toInt ≠ y0.toInt * 4294967296 + 2) (hne21 : g2.toInt ≠ y1.toInt * 4294967296 + 2) :
  oCtr l Z h0 [] nM28 prog_6_method_3_code 9 (some .int) (oR 1 0 0 24) #[.ref b10,.int 3,.ref b2,.int 2] [(b0,D0),(b1,D1),(b2,.inl (.int,[.int y0,.int y1])),(b3,D3),(b4,D4),(b5,D5),(b6,D6),(b7,D7),(b8,D8),(b9,D9),(b10,.inl (.long,(.long g0)::(.long g1)::(.long g2)::(.long t0)::(.long t1)::rt)),(b11,D11),(b12,D12),(b13,D13)] (oVal fun w d=>∃ (z0 z1 z2 z3 z4 : Int64),w=.int 5∧d=[(b0,D0),(b1,D1),(b2,.inl (.int,[.int y0,.int y1])),(b3,D3),(b4,D4),(b5,D5),(b6,D6),(b7,D7),(b8,D8),(b9,D9),(b10,.inl (.long,(.long z0)::(.long z1)::(.long z2)::(.long z3)::(.long z4)::rt)),(b11,D11),(b12,D12),(b13,D13)]∧oCh [z0,z1,z2,z3,z4]∧∀ v : Int,(v=z0.toInt∨v=z1.toInt∨v=z2.toInt∨v=z3.toInt∨v=z4.toInt) ↔ ((v=g0.toInt∨v=g1.toInt∨v=g2.toInt)∨(v=y0.toInt * 4294967296 + 2∨v=y1.toInt * 4294967296 + 2))):=by
 refine oCo #[.val (.ref b10),.val (.int 3),.val (.ref b2),.val (.int 2),.unset,.unset,.unset,.unset,.unset] ?_
 intro p e s m below meth c K
 simp only [oCh,and_true] at hch
 refine Ye 1 K d11_0 <|Ya 2 K d11_1 <|Yf 2 2 3 K d11_2 ?_
 refine Ym 5 4 K d11_3 <|Yd 1 5 K d11_4 ?_
 refine Y4 4 6 K d11_5 ?_
 refine Yj 8 K d11_6 U4 <|Ye 9 K d11_8 <|Yd 1 10 K d11_9 ?_
 refine Y4 2 11 K d11_10 ?_
 refine Yj 13 K d11_11 U5 <|Ya 14 K d11_13 <|Yf 2 2 15 K d11_14 <|Yd 1 16 K d11_15 ?_
 refine Y4 1 17 K d11_16 ?_
 refine Yj 19 K d11_17 U6 <|Yb 21 K d11_19 ?_
 refine Yw 81 24 K d11_21 <|Ya 25 K d11_24 <|Yb 27 K d11_25 <|Yn 2 1 28 K d11_27 <|Ye 29 K d11_28 ?_
 refine Yk [.int y1,.int 2] [] 0 0 0 32 K (hw 88) (hw 89) (hw 86) (hw 90) (own_of @hw (by omega) (by decide)) (lenOf pd_2 rfl) d11_29 ?_
 rintro _ _ ⟨c1,rfl,tc1,rfl⟩
 simp only [Int32.reduceToInt] at tc1
 refine Gf #[.val (.ref b10),.val (.int 3),.val (.ref b2),.val (.int 2),.val (.int 4),.val (.int 2),.val (.int 1),.val (.long c1),.second] 34 K d11_32 <|Yb 36 K d11_34 ?_
 refine Yw 66 39 K d11_36 <|Ya 40 K d11_39 <|Yb 42 K d11_40 <|Yt 10 2 43 K d11_42 <|Yo 45 K d11_43 ?_
 obtain ⟨v45,ev45⟩:=oE (XT.cmpL g2 c1 : Int32)
 refine Y6 46 K d11_45 ev45 ?_
 refine Y2 66 49 K d11_46 (fun c46=>?_) (fun c46=>?_)
 ·rw [(oLcmp ev45).2.2] at c46
  refine Ya 67 K d11_66 <|Yb 69 K d11_67 ?_
  refine Yg 3 72 K d11_69 U4 <|Yo 74 K d11_72 ?_
  refine Yp 10 4 75 K d11_74 rfl oL4 (S10 T4) ?_
  refine Yg 0 78 K d11_75 U6 <|Yi 19 K d11_78 <|Yb 21 K d11_19 ?_
  refine Yw 81 24 K d11_21 <|Ya 25 K d11_24 <|Yb 27 K d11_25 <|Yn 2 0 28 K d11_27 <|Ye 29 K d11_28 ?_
  refine Yk [.int y0,.int 2] [] 0 0 0 32 K (hw 88) (hw 89) (hw 86) (hw 90) (own_of @hw (by omega) (by decide)) (lenOf pd_2 rfl) d11_29 ?_
  rintro _ _ ⟨c0,rfl,tc0,rfl⟩
  simp only [Int32.reduceToInt] at tc0
  refine Gf #[.val (.ref b10),.val (.int 3),.val (.ref b2),.val (.int 2),.val (.int 3),.val (.int 2),.val (.int 0),.val (.long c0),.second] 34 K d11_32 <|Yb 36 K d11_34 ?_
  refine Yw 66 39 K d11_36 <|Ya 40 K d11_39 <|Yb 42 K d11_40 <|Yt 10 2 43 K d11_42 <|Yo 45 K d11_43 ?_
  obtain ⟨v45_1,ev45_1⟩:=oE (XT.cmpL g2 c0 : Int32)
  refine Y6 46 K d11_45 ev45_1 ?_
  refine Y2 66 49 K d11_46 (fun c46_1=>?_) (fun c46_1=>?_)
  ·rw [(oLcmp ev45_1).2.2] at c46_1
   refine Ya 67 K d11_66 <|Yb 69 K d11_67 ?_
   refine Yg 2 72 K d11_69 U4 <|Yo 74 K d11_72 ?_
   refine Yp 10 3 75 K d11_74 rfl oL3 (S10 T3) ?_
   refine Yg (-1 : Int32) 78 K d11_75 U6 <|Yi 19 K d11_78 <|Yb 21 K d11_19 ?_
   refine Ys 81 24 K d11_21 <|Ye 82 K d11_81 <|Ya 83 K d11_82 <|Yf 2 2 84 K d11_83 ?_
   refine Ym 5 85 K d11_84 ?_
   exact Yq K d11_85 ⟨_,rfl,_,_,_,_,_,rfl,rfl,⟨by omega,by omega,by omega,by omega,trivial⟩,fun v=>by omega⟩
  rw [(oLcmp ev45_1).2.2] at c46_1
  refine Ya 50 K d11_49 <|Yb 52 K d11_50 ?_
  refine Yg 2 55 K d11_52 U4 <|Ya 56 K d11_55 <|Yb 58 K d11_56 ?_
  refine Yg 1 61 K d11_58 U5 <|Yt 10 2 62 K d11_61 ?_
  refine Yp 10 3 63 K d11_62 rfl oL3 (S10 T3) <|Yi 34 K d11_63 <|Yb 36 K d11_34 ?_
  refine Yw 66 39 K d11_36 <|Ya 40 K d11_39 <|Yb 42 K d11_40 <|Yt 10 1 43 K d11_42 <|Yo 45 K d11_43 ?_
  obtain ⟨v45_2,ev45_2⟩:=oE (XT.cmpL g1 c0 : Int32)
  refine Y6 46 K d11_45 ev45_2 ?_
  refine Y2 66 49 K d11_46 (fun c46_2=>?_) (fun c46_2=>?_)
  ·rw [(oLcmp ev45_2).2.2] at c46_2
   refine Ya 67 K d11_66 <|Yb 69 K d11_67 ?_
   refine Yg 1 72 K d11_69 U4 <|Yo 74 K d11_72 ?_
   refine Yp 10 2 75 K d11_74 rfl oL2 (S10 T2) ?_
   refine Yg (-1 : Int32) 78 K d11_75 U6 <|Yi 19 K d11_78 <|Yb 21 K d11_19 ?_
   refine Ys 81 24 K d11_21 <|Ye 82 K d11_81 <|Ya 83 K d11_82 <|Yf 2 2 84 K d11_83 ?_
   refine Ym 5 85 K d11_84 ?_
   exact Yq K d11_85 ⟨_,rfl,_,_,_,_,_,rfl,rfl,⟨by omega,by omega,by omega,by omega,trivial⟩,fun v=>by omega⟩
  rw [(oLcmp ev45_2).2.2] at c46_2
  refine Ya 50 K d11_49 <|Yb 52 K d11_50 ?_
  refine Yg 1 55 K d11_52 U4 <|Ya 56 K d11_55 <|Yb 58 K d11_56 ?_
  refine Yg 0 61 K d11_58 U5 <|Yt 10 1 62 K d11_61 ?_
  refine Yp 10 2 63 K d11_62 rfl oL2 (S10 T2) <|Yi 34 K d11_63 <|Yb 36 K d11_34 ?_
  refine Yw 66 39 K d11_36 <|Ya 40 K d11_39 <|Yb 42 K d11_40 <|Yt 10 0 43 K d11_42 <|Yo 45 K d11_43 ?_
  obtain ⟨v45_3,ev45_3⟩:=oE (XT.cmpL g0 c0 : Int32)
  refine Y6 46 K d11_45 ev45_3 ?_
  refine Y2 66 49 K d11_46 (fun c46_3=>?_) (fun c46_3=>?_)
  ·rw [(oLcmp ev45_3).2.2] at c46_3
   refine Ya 67 K d11_66 <|Yb 69 K d11_67 ?_
   refine Yg 0 72 K d11_69 U4 <|Yo 74 K d11_72 ?_
   refine Yp 10 1 75 K d11_74 rfl oL1 (S10 T1) ?_
   refine Yg (-1 : Int32) 78 K d11_75 U6 <|Yi 19 K d11_78 <|Yb 21 K d11_19 ?_
   refine Ys 81 24 K d11_21 <|Ye 82 K d11_81 <|Ya 83 K d11_82 <|Yf 2 2 84 K d11_83 ?_
   refine Ym 5 85 K d11_84 ?_
   exact Yq K d11_85 ⟨_,rfl,_,_,_,_,_,rfl,rfl,⟨by omega,by omega,by omega,by omega,trivial⟩,fun v=>by omega⟩
  rw [(oLcmp ev45_3).2.2] at c46_3
  refine Ya 50 K d11_49 <|Yb 52 K d11_50 ?_
  refine Yg 0 55 K d11_52 U4 <|Ya 56 K d11_55 <|Yb 58 K d11_56 ?_
  refine Yg (-1 : Int32) 61 K d11_58 U5 <|Yt 10 0 62 K d11_61 ?_
  refine Yp 10 1 63 K d11_62 rfl oL1 (S10 T1) <|Yi 34 K d11_63 <|Yb 36 K d11_34 ?_
  refine Ys 66 39 K d11_36 <|Ya 67 K d11_66 <|Yb 69 K d11_67 ?_
  refine Yg (-1 : Int32) 72 K d11_69 U4 <|Yo 74 K d11_72 ?_
  refine Yp 10 0 75 K d11_74 rfl oL0 (S10 T0) ?_
  refine Yg (-1 : Int32) 78 K d11_75 U6 <|Yi 19 K d11_78 <|Yb 21 K d11_19 ?_
  refine Ys 81 24 K d11_21 <|Ye 82 K d11_81 <|Ya 83 K d11_82 <|Yf 2 2 84 K d11_83 ?_
  refine Ym 5 85 K d11_84 ?_
  exact Yq K d11_85 ⟨_,rfl,_,_,_,_,_,rfl,rfl,⟨by omega,by omega,by omega,by omega,trivial⟩,fun v=>by omega⟩
 rw [(oLcmp ev45).2.2] at c46
 refine Ya 50 K d11_49 <|Yb 52 K d11_50 ?_
 refine Yg 3 55 K d11_52 U4 <|Ya 56 K d11_55 <|Yb 58 K d11_56 ?_
 refine Yg 1 61 K d11_58 U5 <|Yt 10 2 62 K d11_61 ?_
 refine Yp 10 4 63 K d11_62 rfl oL4 (S10 T4) <|Yi 34 K d11_63 <|Yb 36 K d11_34 ?_
 refine Yw 66 39 K d11_36 <|Ya 40 K d11_39 <|Yb 42 K d11_40 <|Yt 10 1 43 K d11_42 <|Yo 45 K d11_43 ?_
 obtain ⟨v45_1,ev45_1⟩:=oE (XT.cmpL g1 c1 : Int32)
 refine Y6 46 K d11_45 ev45_1 ?_
 refine Y2 66 49 K d11_46 (fun c46_1=>?_) (fun c46_1=>?_)
 ·rw [(oLcmp ev45_1).2.2] at c46_1
  refine Ya 67 K d11_66 <|Yb 69 K d11_67 ?_
  refine Yg 2 72 K d11_69 U4 <|Yo 74 K d11_72 ?_
  refine Yp 10 3 75 K d11_74 rfl oL3 (S10 T3) ?_
  refine Yg 0 78 K d11_75 U6 <|Yi 19 K d11_78 <|Yb 21 K d11_19 ?_
  refine Yw 81 24 K d11_21 <|Ya 25 K d11_24 <|Yb 27 K d11_25 <|Yn 2 0 28 K d11_27 <|Ye 29 K d11_28 ?_
  refine Yk [.int y0,.int 2] [] 0 0 0 32 K (hw 88) (hw 89) (hw 86) (hw 90) (own_of @hw (by omega) (by decide)) (lenOf pd_2 rfl) d11_29 ?_
  rintro _ _ ⟨c0,rfl,tc0,rfl⟩
  simp only [Int32.reduceToInt] at tc0
  refine Gf #[.val (.ref b10),.val (.int 3),.val (.ref b2),.val (.int 2),.val (.int 2),.val (.int 1),.val (.int 0),.val (.long c0),.second] 34 K d11_32 <|Yb 36 K d11_34 ?_
  refine Yw 66 39 K d11_36 <|Ya 40 K d11_39 <|Yb 42 K d11_40 <|Yt 10 1 43 K d11_42 <|Yo 45 K d11_43 ?_
  obtain ⟨v45_2,ev45_2⟩:=oE (XT.cmpL g1 c0 : Int32)
  refine Y6 46 K d11_45 ev45_2 ?_
  refine Y2 66 49 K d11_46 (fun c46_2=>?_) (fun c46_2=>?_)
  ·rw [(oLcmp ev45_2).2.2] at c46_2
   refine Ya 67 K d11_66 <|Yb 69 K d11_67 ?_
   refine Yg 1 72 K d11_69 U4 <|Yo 74 K d11_72 ?_
   refine Yp 10 2 75 K d11_74 rfl oL2 (S10 T2) ?_
   refine Yg (-1 : Int32) 78 K d11_75 U6 <|Yi 19 K d11_78 <|Yb 21 K d11_19 ?_
   refine Ys 81 24 K d11_21 <|Ye 82 K d11_81 <|Ya 83 K d11_82 <|Yf 2 2 84 K d11_83 ?_
   refine Ym 5 85 K d11_84 ?_
   exact Yq K d11_85 ⟨_,rfl,_,_,_,_,_,rfl,rfl,⟨by omega,by omega,by omega,by omega,trivial⟩,fun v=>by omega⟩
  rw [(oLcmp ev45_2).2.2] at c46_2
  refine Ya 50 K d11_49 <|Yb 52 K d11_50 ?_
  refine Yg 1 55 K d11_52 U4 <|Ya 56 K d11_55 <|Yb 58 K d11_56 ?_
  refine Yg 0 61 K d11_58 U5 <|Yt 10 1 62 K d11_61 ?_
  refine Yp 10 2 63 K d11_62 rfl oL2 (S10 T2) <|Yi 34 K d11_63 <|Yb 36 K d11_34 ?_
  refine Yw 66 39 K d11_36 <|Ya 40 K d11_39 <|Yb 42 K d11_40 <|Yt 10 0 43 K d11_42 <|Yo 45 K d11_43 ?_
  obtain ⟨v45_3,ev45_3⟩:=oE (XT.cmpL g0 c0 : Int32)
  refine Y6 46 K d11_45 ev45_3 ?_
  refine Y2 66 49 K d11_46 (fun c46_3=>?_) (fun c46_3=>?_)
  ·rw [(oLcmp ev45_3).2.2] at c46_3
   refine Ya 67 K d11_66 <|Yb 69 K d11_67 ?_
   refine Yg 0 72 K d11_69 U4 <|Yo 74 K d11_72 ?_
   refine Yp 10 1 75 K d11_74 rfl oL1 (S10 T1) ?_
   refine Yg (-1 : Int32) 78 K d11_75 U6 <|Yi 19 K d11_78 <|Yb 21 K d11_19 ?_
   refine Ys 81 24 K d11_21 <|Ye 82 K d11_81 <|Ya 83 K d11_82 <|Yf 2 2 84 K d11_83 ?_
   refine Ym 5 85 K d11_84 ?_
   exact Yq K d11_85 ⟨_,rfl,_,_,_,_,_,rfl,rfl,⟨by omega,by omega,by omega,by omega,trivial⟩,fun v=>by omega⟩
  rw [(oLcmp ev45_3).2.2] at c46_3
  refine Ya 50 K d11_49 <|Yb 52 K d11_50 ?_
  refine Yg 0 55 K d11_52 U4 <|Ya 56 K d11_55 <|Yb 58 K d11_56 ?_
  refine Yg (-1 : Int32) 61 K d11_58 U5 <|Yt 10 0 62 K d11_61 ?_
  refine Yp 10 1 63 K d11_62 rfl oL1 (S10 T1) <|Yi 34 K d11_63 <|Yb 36 K d11_34 ?_
  refine Ys 66 39 K d11_36 <|Ya 67 K d11_66 <|Yb 69 K d11_67 ?_
  refine Yg (-1 : Int32) 72 K d11_69 U4 <|Yo 74 K d11_72 ?_
  refine Yp 10 0 75 K d11_74 rfl oL0 (S10 T0) ?_
  refine Yg (-1 : Int32) 78 K d11_75 U6 <|Yi 19 K d11_78 <|Yb 21 K d11_19 ?_
  refine Ys 81 24 K d11_21 <|Ye 82 K d11_81 <|Ya 83 K d11_82 <|Yf 2 2 84 K d11_83 ?_
  refine Ym 5 85 K d11_84 ?_
  exact Yq K d11_85 ⟨_,rfl,_,_,_,_,_,rfl,rfl,⟨by omega,by omega,by omega,by omega,trivial⟩,fun v=>by omega⟩
 rw [(oLcmp ev45_1).2.2] at c46_1
 refine Ya 50 K d11_49 <|Yb 52 K d11_50 ?_
 refine Yg 2 55 K d11_52 U4 <|Ya 56 K d11_55 <|Yb 58 K d11_56 ?_
 refine Yg 0 61 K d11_58 U5 <|Yt 10 1 62 K d11_61 ?_
 refine Yp 10 3 63 K d11_62 rfl oL3 (S10 T3) <|Yi 34 K d11_63 <|Yb 36 K d11_34 ?_
 refine Yw 66 39 K d11_36 <|Ya 40 K d11_39 <|Yb 42 K d11_40 <|Yt 10 0 43 K d11_42 <|Yo 45 K d11_43 ?_
 obtain ⟨v45_2,ev45_2⟩:=oE (XT.cmpL g0 c1 : Int32)
 refine Y6 46 K d11_45 ev45_2 ?_
 refine Y2 66 49 K d11_46 (fun c46_2=>?_) (fun c46_2=>?_)
 ·rw [(oLcmp ev45_2).2.2] at c46_2
  refine Ya 67 K d11_66 <|Yb 69 K d11_67 ?_
  refine Yg 1 72 K d11_69 U4 <|Yo 74 K d11_72 ?_
  refine Yp 10 2 75 K d11_74 rfl oL2 (S10 T2) ?_
  refine Yg 0 78 K d11_75 U6 <|Yi 19 K d11_78 <|Yb 21 K d11_19 ?_
  refine Yw 81 24 K d11_21 <|Ya 25 K d11_24 <|Yb 27 K d11_25 <|Yn 2 0 28 K d11_27 <|Ye 29 K d11_28 ?_
  refine Yk [.int y0,.int 2] [] 0 0 0 32 K (hw 88) (hw 89) (hw 86) (hw 90) (own_of @hw (by omega) (by decide)) (lenOf pd_2 rfl) d11_29 ?_
  rintro _ _ ⟨c0,rfl,tc0,rfl⟩
  simp only [Int32.reduceToInt] at tc0
  refine Gf #[.val (.ref b10),.val (.int 3),.val (.ref b2),.val (.int 2),.val (.int 1),.val (.int 0),.val (.int 0),.val (.long c0),.second] 34 K d11_32 <|Yb 36 K d11_34 ?_
  refine Yw 66 39 K d11_36 <|Ya 40 K d11_39 <|Yb 42 K d11_40 <|Yt 10 0 43 K d11_42 <|Yo 45 K d11_43 ?_
  obtain ⟨v45_3,ev45_3⟩:=oE (XT.cmpL g0 c0 : Int32)
  refine Y6 46 K d11_45 ev45_3 ?_
  refine Y2 66 49 K d11_46 (fun c46_3=>?_) (fun c46_3=>?_)
  ·rw [(oLcmp ev45_3).2.2] at c46_3
   refine Ya 67 K d11_66 <|Yb 69 K d11_67 ?_
   refine Yg 0 72 K d11_69 U4 <|Yo 74 K d11_72 ?_
   refine Yp 10 1 75 K d11_74 rfl oL1 (S10 T1) ?_
   refine Yg (-1 : Int32) 78 K d11_75 U6 <|Yi 19 K d11_78 <|Yb 21 K d11_19 ?_
   refine Ys 81 24 K d11_21 <|Ye 82 K d11_81 <|Ya 83 K d11_82 <|Yf 2 2 84 K d11_83 ?_
   refine Ym 5 85 K d11_84 ?_
   exact Yq K d11_85 ⟨_,rfl,_,_,_,_,_,rfl,rfl,⟨by omega,by omega,by omega,by omega,trivial⟩,fun v=>by omega⟩
  rw [(oLcmp ev45_3).2.2] at c46_3
  refine Ya 50 K d11_49 <|Yb 52 K d11_50 ?_
  refine Yg 0 55 K d11_52 U4 <|Ya 56 K d11_55 <|Yb 58 K d11_56 ?_
  refine Yg (-1 : Int32) 61 K d11_58 U5 <|Yt 10 0 62 K d11_61 ?_
  refine Yp 10 1 63 K d11_62 rfl oL1 (S10 T1) <|Yi 34 K d11_63 <|Yb 36 K d11_34 ?_
  refine Ys 66 39 K d11_36 <|Ya 67 K d11_66 <|Yb 69 K d11_67 ?_
  refine Yg (-1 : Int32) 72 K d11_69 U4 <|Yo 74 K d11_72 ?_
  refine Yp 10 0 75 K d11_74 rfl oL0 (S10 T0) ?_
  refine Yg (-1 : Int32) 78 K d11_75 U6 <|Yi 19 K d11_78 <|Yb 21 K d11_19 ?_
  refine Ys 81 24 K d11_21 <|Ye 82 K d11_81 <|Ya 83 K d11_82 <|Yf 2 2 84 K d11_83 ?_
  refine Ym 5 85 K d11_84 ?_
  exact Yq K d11_85 ⟨_,rfl,_,_,_,_,_,rfl,rfl,⟨by omega,by omega,by omega,by omega,trivial⟩,fun v=>by omega⟩
 rw [(oLcmp ev45_2).2.2] at c46_2
 refine Ya 50 K d11_49 <|Yb 52 K d11_50 ?_
 refine Yg 1 55 K d11_52 U4 <|Ya 56 K d11_55 <|Yb 58 K d11_56 ?_
 refine Yg (-1 : Int32) 61 K d11_58 U5 <|Yt 10 0 62 K d11_61 ?_
 refine Yp 10 2 63 K d11_62 rfl oL2 (S10 T2) <|Yi 34 K d11_63 <|Yb 36 K d11_34 ?_
 refine Ys 66 39 K d11_36 <|Ya 67 K d11_66 <|Yb 69 K d11_67 ?_
 refine Yg 0 72 K d11_69 U4 <|Yo 74 K d11_72 ?_
 refine Yp 10 1 75 K d11_74 rfl oL1 (S10 T1) ?_
 refine Yg 0 78 K d11_75 U6 <|Yi 19 K d11_78 <|Yb 21 K d11_19 ?_
 refine Yw 81 24 K d11_21 <|Ya 25 K d11_24 <|Yb 27 K d11_25 <|Yn 2 0 28 K d11_27 <|Ye 29 K d11_28 ?_
 refine Yk [.int y0,.int 2] [] 0 0 0 32 K (hw 88) (hw 89) (hw 86) (hw 90) (own_of @hw (by omega) (by decide)) (lenOf pd_2 rfl) d11_29 ?_
 rintro _ _ ⟨c0,rfl,tc0,rfl⟩
 simp only [Int32.reduceToInt] at tc0
 refine Gf #[.val (.ref b10),.val (.int 3),.val (.ref b2),.val (.int 2),.val (.int 0),.val (.int (-1)),.val (.int 0),.val (.long c0),.second] 34 K d11_32 <|Yb 36 K d11_34 ?_
 refine Ys 66 39 K d11_36 <|Ya 67 K d11_66 <|Yb 69 K d11_67 ?_
 refine Yg (-1 : Int32) 72 K d11_69 U4 <|Yo 74 K d11_72 ?_
 refine Yp 10 0 75 K d11_74 rfl oL0 (S10 T0) ?_
 refine Yg (-1 : Int32) 78 K d11_75 U6 <|Yi 19 K d11_78 <|Yb 21 K d11_19 ?_
 refine Ys 81 24 K d11_21 <|Ye 82 K d11_81 <|Ya 83 K d11_82 <|Yf 2 2 84 K d11_83 ?_
 refine Ym 5 85 K d11_84 ?_
 exact Yq K d11_85 ⟨_,rfl,_,_,_,_,_,rfl,rfl,⟨by omega,by omega,by omega,by omega,trivial⟩,fun v=>by omega⟩
theorem own_add3_2_122 (hw : oHw a0 Z) {D0 D1 D9 D11 D12 D13 : oDsc} {f_dl f_wi f_cc f_rc f_hd f_ea : Value} {g0 g1 g2 : Int64} {u0 u1 : Int32} (hu0 : 1≤u0.toInt∧u0.toInt≤100000) (hu1 : 1≤u1.toInt∧u1.toInt≤100000) (hu0u1 : u0.toInt < u1.toInt) (hch : oCh [g0,g1,g2]) (hne00 : g0.toInt ≠ u0.toInt * 4294967296 + 2) (hne01 : g0.toInt ≠ u1.toInt * 4294967296 + 2) (hne10 : g1.toInt ≠ u0.toInt * 4294967296 + 2) (hne11 : g1.toInt ≠ u1.toInt * 4294967296 + 2) (hne20 : g2.toInt ≠ u0.toInt * 4294967296 + 2) (hne21 : g2.toInt ≠ u1.toInt * 4294967296 + 2) :
  oCtr l Z h0 [] nM29 prog_7_method_3_code 5 none (oR 2 3 24 90) #[.ref b3,.int 2,.ref b2] [(b0,D0),(b1,D1),(b2,.inl (.int,[.int u0,.int u1])),(b3,oP b10 b13 b11 b12 b4 b5 b6 b7 b8 b9 (.int 0) .null (.int 2) (.int 3) f_dl f_wi f_cc f_rc f_hd f_ea),(b4,.inl (.boolean,[.int 1,.int 1,.int 0])),(b5,.inl (.int,[.int 0,.int 1,.int 0])),(b6,.inl (.int,[.int 2147483647,.int 2147483647,.int 2147483647])),(b7,.inl (.int,[.int 0,.int 1,.int 0])),(b8,.inl (.array .int,[.null,.null,.null])),(b9,D9),(b10,.inl (.long,[.long g0,.long g1,.long g2])),(b11,D11),(b12,D12),(b13,D13)] (oVoid fun d=>∃ (b10' b11' b12' : Addr) (z0 z1 z2 z3 z4 : Int64),d=[(b0,D0),(b1,D1),(b2,.inl (.int,[.int u0,.int u1])),(b3,oP b10' b13 b11' b12' b4 b5 b6 b7 b8 b9 (.int 1) (.ref b2) (.int 3) (.int 5) f_dl (.int 0) f_cc f_rc f_hd f_ea),(b4,.inl (.boolean,[.int 1,.int 1,.int 1])),(b5,.inl (.int,[.int 0,.int 1,.int 2])),(b6,.inl (.int,[.int 2147483647,.int 2147483647,.int 0])),(b7,.inl (.int,[.int 2,.int 1,.int 0])),(b8,.inl (.array .int,[.ref b2,.null,.null])),(b9,D9),(b10',.inl (.long,[.long z0,.long z1,.long z2,.long z3,.long z4,.long 0])),(b11',.inl (.long,[.long 0,.long 0,.long 0,.long 0,.long 0,.long 0])),(b12',.inl (.int,[.int 0,.int 0,.int 0,.int 0,.int 0,.int 0])),(b13,D13)]∧oCh [z0,z1,z2,z3,z4]∧∀ v : Int,(v=z0.toInt∨v=z1.toInt∨v=z2.toInt∨v=z3.toInt∨v=z4.toInt) ↔ ((v=g0.toInt∨v=g1.toInt∨v=g2.toInt)∨(v=u0.toInt * 4294967296 + 2∨v=u1.toInt * 4294967296 + 2))):=by
 refine oCo #[.val (.ref b3),.val (.int 2),.val (.ref b2),.unset,.unset] ?_
 intro p e s m below meth c K
 refine Ya 1 K d8_0 <|Yc 3 6 4 K (hw 32) d8_1 <|Ye 5 K d8_4 <|Ya 6 K d8_5 <|Yc 3 10 9 K (hw 57) d8_6 ?_
 refine Yr 6 2 10 K d8_9 rfl (S6 T2) <|Ya 11 K d8_10 <|Yc 3 7 14 K (hw 39) d8_11 <|Ya 15 K d8_14 <|Yc 3 10 18 K (hw 57) d8_15 <|Ye 19 K d8_18 ?_
 refine Yr 7 0 20 K d8_19 rfl (S7 T0) <|Ya 21 K d8_20 <|Yc 3 8 24 K (hw 43) d8_21 <|Ya 25 K d8_24 <|Yc 3 10 28 K (hw 57) d8_25 <|Ya 29 K d8_28 ?_
 refine Go 8 2 0 30 K d8_29 rfl (S8 T0) <|Ya 31 K d8_30 ?_
 refine Yv 32 K d8_31 <|Yc 3 10 35 K (hw 57) d8_32 <|Yd 1 36 K d8_35 ?_
 refine Ym 1 37 K d8_36 ?_
 refine Yl 3 10 .int 40 K (hw 57) (Or.inl (hw 58)) (hw 10) (oAp_0 @hw) d8_37 rfl rfl (P3 F10) <|Ya 41 K d8_40 <|Yc 3 4 44 K (hw 28) d8_41 <|Ye 45 K d8_44 <|Gn 4 2 46 K d8_45 ?_
 refine Gc 149 49 K d8_46 <|Ya 50 K d8_49 <|Yc 3 4 53 K (hw 28) d8_50 <|Ye 54 K d8_53 <|Yd 1 55 K d8_54 ?_
 refine Gy 4 2 (.int (1 : Int32)) 56 K d8_55 rfl (S4 T2) <|Ya 57 K d8_56 <|Yc 3 5 60 K (hw 30) d8_57 <|Ya 61 K d8_60 ?_
 refine Yv 62 K d8_61 <|Yc 3 12 65 K (hw 61) d8_62 ?_
 refine Gg 66 K d8_65 <|Yd 1 67 K d8_66 ?_
 refine Ym 3 68 K d8_67 ?_
 refine Yl 3 12 .int 71 K (hw 61) (Or.inl (hw 62)) (hw 10) (oAp_0 @hw) d8_68 rfl rfl (P3 F12) <|Ye 72 K d8_71 ?_
 refine Yr 5 2 73 K d8_72 rfl (S5 T2) <|Ya 74 K d8_73 <|Yc 3 13 77 K (hw 63) d8_74 <|Ya 78 K d8_77 <|Yf 2 2 79 K d8_78 ?_
 refine Ym 5 80 K d8_79 ?_
 refine Yz 81 K d8_80 U3 <|Ya 82 K d8_81 <|Yc 3 0 85 K (hw 19) d8_82 <|Yf 10 3 86 K d8_85 <|Ye 87 K d8_86 ?_
 refine Yy 132 90 K d8_87 <|Ye 91 K d8_90 <|Yd 2 92 K d8_91 <|Ya 93 K d8_92 <|Yc 3 0 96 K (hw 19) d8_93 <|Yf 10 3 97 K d8_96 ?_
 refine Gq 6 98 K d8_97 ?_
 refine Yk [.int 5,.int 6] [] 0 0 0 101 K (hw 73) (hw 6) (hw 7) (hw 8) (own_max @hw) (lenOf pd_9 rfl) d8_98 ?_
 rintro _ _ ⟨mz,rfl,hmz,rfl⟩
 obtain rfl : mz=(6 : Int32):=oEq32.mpr (hmz.trans (by decide))
 refine Yj 103 K d8_101 U4 <|Ya 104 K d8_103 <|Ya 105 K d8_104 <|Yc 3 0 108 K (hw 19) d8_105 <|Yb 110 K d8_108 ?_
 refine Yk [.ref b10,.int 6] [.ref b3] 1 1 6 113 K (hw 74) (hw 75) (hw 37) (hw 76) (own_copy_3_6 @hw) (lenOf pd_13 rfl) d8_110 ?_
 rintro _ _ ⟨b14,rfl,rfl⟩
 refine Yl 3 0 (.array .long) 116 K (hw 19) (Or.inl (hw 20)) (hw 10) (oAp_0 @hw) d8_113 rfl rfl (P3 F0) <|Ya 117 K d8_116 <|Yb 119 K d8_117 ?_
 refine Y3 6 2 12 121 K (hw 18) d8_119 (N15 (.inl (.long,[.long 0,.long 0,.long 0,.long 0,.long 0,.long 0]))) ?_
 intro a119 ha119
 refine Yl 3 2 (.array .long) 124 K (hw 23) (Or.inl (hw 24)) (hw 10) (oAp_0 @hw) d8_121 rfl rfl (P3 F2) <|Ya 125 K d8_124 <|Yb 127 K d8_125 ?_
 refine Y3 6 3 18 129 K (hw 4) d8_127 (N16 (.inl (.int,[.int 0,.int 0,.int 0,.int 0,.int 0,.int 0]))) ?_
 intro a127 ha127
 refine Yl 3 3 (.array .int) 132 K (hw 25) (Or.inl (hw 26)) (hw 10) (oAp_0 @hw) d8_129 rfl rfl (P3 F3) ?_
 refine oPk1 ?_
 refine Ya 133 K d8_132 <|Ya 134 K d8_133 <|Yc 3 0 137 K (hw 19) d8_134 <|Ya 138 K d8_137 <|Yc 3 13 141 K (hw 63) d8_138 <|Ya 142 K d8_141 <|Ye 143 K d8_142 ?_
 refine Yk [.ref b14,.int 3,.ref b2,.int 2] [.ref b3] 1 3 18 146 K (hw 84) (hw 85) (hw 86) (hw 87) (own_aw_2_3_2 @hw (by omega) (by omega) (by omega) hch hne00 hne01 hne10 hne11 hne20 hne21) (lenOf pd_14 rfl) d8_143 ?_
 rintro _ _ ⟨z0,z1,z2,z3,z4,rfl,rfl,hz1,hz2⟩
 refine Yl 3 13 .int 149 K (hw 63) (Or.inl (hw 64)) (hw 10) (oAp_0 @hw) d8_146 rfl rfl (P3 F13) <|Ya 150 K d8_149 <|Yc 3 11 153 K (hw 59) d8_150 ?_
 refine Gw 168 K d8_153 <|Ya 169 K d8_168 <|Ya 170 K d8_169 ?_
 refine Yl 3 11 (.array .int) 173 K (hw 59) (Or.inl (hw 60)) (hw 10) (oAp_0 @hw) d8_170 rfl rfl (P3 F11) <|Ya 174 K d8_173 <|Yd 0 175 K d8_174 ?_
 refine Yl 3 15 .int 178 K (hw 91) (Or.inl (hw 92)) (hw 10) (oAp_0 @hw) d8_175 rfl rfl (P3 F15) ?_
 exact Ga K d8_178 ⟨rfl,_,_,_,_,_,_,_,_,rfl,hz1,hz2⟩
theorem own_widen2_12 (hw : oHw a0 Z) {D2 D4 D5 D6 D7 D9 D10 D11 D12 : oDsc} {f_mc f_cn f_dl f_cc f_rc f_hd f_ea : Value} {q2 : Value} {x0 y0 y1 : Int32} (hx0 : 1≤x0.toInt∧x0.toInt≤100000) (hy0 : 1≤y0.toInt∧y0.toInt≤100000) (hy1 : 1≤y1.toInt∧y1.toInt≤100000) (hy0y1 : y0.toInt < y1.toInt) :
  oCtr l Z h0 [] nM31 prog_7_method_7_code 3 none (oR 3 1 2 60) #[.ref b3] [(b0,.inl (.int,[.int x0])),(b1,.inl (.int,[.int y0,.int y1])),(b2,D2),(b3,oP b10 b13 b11 b12 b4 b5 b6 b7 b8 b9 (.int 2) (.ref b0) f_mc f_cn f_dl (.int 0) f_cc f_rc f_hd f_ea),(b4,D4),(b5,D5),(b6,D6),(b7,D7),(b8,.inl (.array .int,[.ref b0,.ref b1,q2])),(b9,D9),(b10,D10),(b11,D11),(b12,D12),(b13,.inl (.int,[]))] (oVoid fun d=>∃ (b13' : Addr) (e0 : Int32),d=[(b0,.inl (.int,[.int x0])),(b1,.inl (.int,[.int y0,.int y1])),(b2,D2),(b3,oP b10 b13' b11 b12 b4 b5 b6 b7 b8 b9 (.int 2) (.ref b0) f_mc f_cn f_dl (.int 2) f_cc f_rc f_hd f_ea),(b4,D4),(b5,D5),(b6,D6),(b7,D7),(b8,.inl (.array .int,[.ref b0,.ref b1,q2])),(b9,D9),(b10,D10),(b11,D11),(b12,D12),(b13',.inl (.int,[.int e0]))]):=by
 refine oCo #[.val (.ref b3),.unset,.unset] ?_
 intro p e s m below meth c K
 refine Ya 1 K d14_0 <|Yc 3 15 4 K (hw 91) d14_1 ?_
 refine Gc 45 7 K d14_4 <|Ya 8 K d14_7 <|Yc 3 1 11 K (hw 21) d14_8 <|Yf 13 0 12 K d14_11 <|Ya 13 K d14_12 <|Yc 3 11 16 K (hw 59) d14_13 <|Yf 0 1 17 K d14_16 ?_
 refine Yy 31 20 K d14_17 <|Ya 21 K d14_20 <|Ya 22 K d14_21 <|Yc 3 11 25 K (hw 59) d14_22 <|Yf 0 1 26 K d14_25 ?_
 refine Y3 1 1 1 28 K (hw 4) d14_26 (N14 (.inl (.int,[.int 0]))) ?_
 intro a26 ha26
 refine Yl 3 1 (.array .int) 31 K (hw 21) (Or.inl (hw 22)) (hw 10) (oAp_0 @hw) d14_28 rfl rfl (P3 F1) ?_
 refine oPk2 ?_
 refine Ya 32 K d14_31 <|Yc 3 1 35 K (hw 21) d14_32 <|Yd 0 36 K d14_35 <|Ya 37 K d14_36 <|Yc 3 11 40 K (hw 59) d14_37 <|Yf 0 1 41 K d14_40 <|Yd 0 42 K d14_41 ?_
 refine Gu [.ref a26,.int 0,.int 1,.int 0] [] 0 1 1 45 K (hw 102) (hw 103) (hw 37) (hw 104) (own_fillF_1_1 @hw) (lenOf pd_16 rfl) d14_42 ?_
 rintro _ rfl
 refine Ya 46 K d14_45 <|Yc 3 15 49 K (hw 91) d14_46 <|Ya 50 K d14_49 <|Yc 3 10 53 K (hw 57) d14_50 ?_
 refine Yy 121 56 K d14_53 <|Ya 57 K d14_56 <|Yc 3 8 60 K (hw 43) d14_57 <|Ya 61 K d14_60 <|Yc 3 15 64 K (hw 91) d14_61 <|Gz 8 0 65 K d14_64 ?_
 refine Gl 66 K d14_65 U1 <|Yd 0 67 K d14_66 ?_
 refine Yz 68 K d14_67 U2 <|Ye 69 K d14_68 <|Ya 70 K d14_69 <|Yc 3 11 73 K (hw 59) d14_70 <|Yf 0 1 74 K d14_73 ?_
 refine Yy 108 77 K d14_74 <|Ya 78 K d14_77 <|Yc 3 1 81 K (hw 21) d14_78 <|Ye 82 K d14_81 <|Ya 83 K d14_82 <|Yc 3 1 86 K (hw 21) d14_83 <|Ye 87 K d14_86 <|Yn 13 0 88 K d14_87 <|Ya 89 K d14_88 <|Ya 90 K d14_89 <|Yc 3 11 93 K (hw 59) d14_90 <|Ye 94 K d14_93 ?_
 refine Yn 0 0 95 K d14_94 ?_
 refine Yk [.ref b0,.int x0] [.int 0,.int 0,.ref a26] 3 1 1 98 K (hw 108) (hw 109) (hw 11) (hw 110) (own_dist_1 @hw (ix:=0) rfl (by omega) (by omega)) (lenOf pd_8 rfl) d14_95 ?_
 rintro _ _ ⟨dz95,rfl,hdz95,rfl⟩
 refine Yk [.int 0,.int dz95] [.int 0,.ref a26] 2 1 1 101 K (hw 73) (hw 6) (hw 7) (hw 8) (own_max @hw) (lenOf pd_9 rfl) d14_98 ?_
 rintro _ _ ⟨mz98,rfl,hmz98,rfl⟩
 refine Yr 13 0 102 K d14_101 rfl (S13 T0) ?_
 refine Yg 1 105 K d14_102 U2 <|Yi 68 K d14_105 <|Ye 69 K d14_68 <|Ya 70 K d14_69 <|Yc 3 11 73 K (hw 59) d14_70 <|Yf 0 1 74 K d14_73 ?_
 refine Y8 108 77 K d14_74 <|Ya 109 K d14_108 ?_
 refine Yv 110 K d14_109 <|Yc 3 15 113 K (hw 91) d14_110 <|Yd 1 114 K d14_113 ?_
 refine Ym 1 115 K d14_114 ?_
 refine Yl 3 15 .int 118 K (hw 91) (Or.inl (hw 92)) (hw 10) (oAp_0 @hw) d14_115 rfl rfl (P3 F15) <|Yi 45 K d14_118 <|Ya 46 K d14_45 <|Yc 3 15 49 K (hw 91) d14_46 <|Ya 50 K d14_49 <|Yc 3 10 53 K (hw 57) d14_50 ?_
 refine Yy 121 56 K d14_53 <|Ya 57 K d14_56 <|Yc 3 8 60 K (hw 43) d14_57 <|Ya 61 K d14_60 <|Yc 3 15 64 K (hw 91) d14_61 <|Gz 8 1 65 K d14_64 ?_
 refine Gl 66 K d14_65 U1 <|Yd 0 67 K d14_66 ?_
 refine Yz 68 K d14_67 U2 <|Ye 69 K d14_68 <|Ya 70 K d14_69 <|Yc 3 11 73 K (hw 59) d14_70 <|Yf 0 1 74 K d14_73 ?_
 refine Yy 108 77 K d14_74 <|Ya 78 K d14_77 <|Yc 3 1 81 K (hw 21) d14_78 <|Ye 82 K d14_81 <|Ya 83 K d14_82 <|Yc 3 1 86 K (hw 21) d14_83 <|Ye 87 K d14_86 <|Yn 13 0 88 K d14_87 <|Ya 89 K d14_88 <|Ya 90 K d14_89 <|Yc 3 11 93 K (hw 59) d14_90 <|Ye 94 K d14_93 ?_
 refine Yn 0 0 95 K d14_94 ?_
 refine Yk [.ref b1,.int x0] [.int mz98,.int 0,.ref a26] 3 1 1 98 K (hw 108) (hw 109) (hw 11) (hw 110) (own_dist_2 @hw (ix:=1) rfl (by omega) (by omega) (by omega) (by omega)) (lenOf pd_8 rfl) d14_95 ?_
 rintro _ _ ⟨dz95_1,rfl,hdz95_1,rfl⟩
 refine Yk [.int mz98,.int dz95_1] [.int 0,.ref a26] 2 1 1 101 K (hw 73) (hw 6) (hw 7) (hw 8) (own_max @hw) (lenOf pd_9 rfl) d14_98 ?_
 rintro _ _ ⟨mz98_1,rfl,hmz98_1,rfl⟩
 refine Yr 13 0 102 K d14_101 rfl (S13 T0) ?_
 refine Yg 1 105 K d14_102 U2 <|Yi 68 K d14_105 <|Ye 69 K d14_68 <|Ya 70 K d14_69 <|Yc 3 11 73 K (hw 59) d14_70 <|Yf 0 1 74 K d14_73 ?_
 refine Y8 108 77 K d14_74 <|Ya 109 K d14_108 ?_
 refine Yv 110 K d14_109 <|Yc 3 15 113 K (hw 91) d14_110 <|Yd 1 114 K d14_113 ?_
 refine Ym 2 115 K d14_114 ?_
 refine Yl 3 15 .int 118 K (hw 91) (Or.inl (hw 92)) (hw 10) (oAp_0 @hw) d14_115 rfl rfl (P3 F15) <|Yi 45 K d14_118 <|Ya 46 K d14_45 <|Yc 3 15 49 K (hw 91) d14_46 <|Ya 50 K d14_49 <|Yc 3 10 53 K (hw 57) d14_50 ?_
 refine Y8 121 56 K d14_53 ?_
 exact Ga K d14_121 ⟨rfl,_,_,rfl⟩
theorem own_find2_12 (hw : oHw a0 Z) {D2 D4 D5 D7 : oDsc} {f_mc f_cc : Value} {q2 : Value} {x0 y0 y1 dl : Int32} (hx0 : 1 ≤ x0.toInt ∧ x0.toInt ≤ 100000) (hy0 : 1 ≤ y0.toInt ∧ y0.toInt ≤ 100000) (hy1 : 1 ≤ y1.toInt ∧ y1.toInt ≤ 100000) (hy0y1 : y0.toInt < y1.toInt) {ocs : List Int64} {cnt : Nat} {cn : Int32} (hcn : cn.toInt = (cnt : Int)) (hO : oEnt ocs cnt 2) (hs : oSrt ocs cnt) (hol : ocs.length ≤ 1000) {wv : UInt64} {iw : Int} (hSt : Sta Z h0 "java/lang/StrictMath" "$assertionsDisabled" "Z" (.int 1)) (hwh : oWh wv) (hwv : FP.Core.DInt iw wv) (hiw : 1 ≤ iw) (hiw2 : iw ≤ 1000) {rds : List Int64} {cvs : List Value} (hdl : 1 ≤ dl.toInt ∧ dl.toInt ≤ 100000) (hrl : cnt ≤ rds.length ∧ rds.length ≤ 1000) (hcv : 1 ≤ cvs.length ∧ cvs.length ≤ 1000) :
  oCtr l Z h0 [] nM32 prog_7_method_5_code 10 (some .int) (oR 6 1 2 124) #[.ref b3,.double wv] [(b0,.inl (.int,[.int x0])),(b1,.inl (.int,[.int y0,.int y1])),(b2,D2),(b3,oP b10 b13 b11 b12 b4 b5 b6 b7 b8 b9 (.int 2) (.ref b0) f_mc (.int cn) (.int dl) (.int 0) f_cc (.int 0) (.int 0) (.int 0)),(b4,D4),(b5,D5),(b6,.inl (.int,[.int 0,.int 1,.int 2147483647])),(b7,D7),(b8,.inl (.array .int,[.ref b0,.ref b1,q2])),(b9,.inl (.int,[.int 0,.int 0,.int 0])),(b10,.inl (.long,(ocs.map Value.long))),(b11,.inl (.long,(rds.map Value.long))),(b12,.inl (.int,cvs)),(b13,.inl (.int,[]))] (oVal fun w d=>∃ (b13' : Addr) (e0 : Int32) (rds' : List Int64) (cvs' : List Value) (cc' : Int32),w=.int cc'∧d=[(b0,.inl (.int,[.int x0])),(b1,.inl (.int,[.int y0,.int y1])),(b2,D2),(b3,oP b10 b13' b11 b12 b4 b5 b6 b7 b8 b9 (.int 2) (.ref b0) f_mc (.int cn) (.int dl) (.int 2) (.int cc') (.int 0) (.int 0) (.int 0)),(b4,D4),(b5,D5),(b6,.inl (.int,[.int 0,.int 1,.int 2147483647])),(b7,D7),(b8,.inl (.array .int,[.ref b0,.ref b1,q2])),(b9,.inl (.int,[.int 0,.int 0,.int 0])),(b10,.inl (.long,(ocs.map Value.long))),(b11,.inl (.long,(rds'.map Value.long))),(b12,.inl (.int,cvs')),(b13',.inl (.int,[.int e0]))]∧rds'.length=rds.length∧cvs'.length=cvs.length):=by
 refine oCo #[.val (.ref b3),.val (.double wv),.second,.unset,.unset,.unset,.unset,.unset,.unset,.unset] ?_
 intro p e s m below meth c K
 refine Ya 1 K d13_0 ?_
 refine Ge b3 nM12 [] [] 0 1 2 4 K (hw 98) (hw 100) (hw 50) (hw 99) (hw 101) (hw 11) (own_widen2_12 @hw (by omega) (by omega) (by omega) (by omega)) (lenOf pd_4 rfl) d13_1 ?_
 rintro _ ⟨b13',e0,rfl⟩
 refine Y1 5 K d13_4 ?_
 refine oW.floorW (pc':=8) K @hw (hw 117) hSt hwh d13_5 rfl (by decide) (by decide) rfl ?_
 refine Ya 9 K d13_8 <|Yc 3 14 12 K (hw 65) d13_9 ?_
 obtain ⟨v12,ev12⟩:=oE (FP.i2d dl : UInt64)
 have dv12:=oI2D ev12
 refine Gh 13 K d13_12 ev12 ?_
 obtain ⟨md,emd⟩:=oE (Native.java_lang_Math.nans.pick64 false wv v12 : UInt64)
 have hmd : FP.Core.DInt (min iw dl.toInt) md:=by rw [emd]; exact oPick hwv dv12
 refine oW.minDW (pc':=16) K @hw (hw 140) (oNN hwv) (oNN dv12) emd d13_13 rfl (by decide) (by decide) (by decide) (by decide) rfl ?_
 obtain ⟨v16,ev16⟩:=oE (FP.d2i md : Int32)
 refine G3 17 K d13_16 ev16 ?_
 have tv16:=oD2I ev16 hmd (by omega)
 refine Yd 1 18 K d13_17 ?_
 obtain ⟨v18,ev18⟩:=oE (v16 - (1 : Int32) : Int32)
 refine Y9 19 K d13_18 ev18 ?_
 have tv18:=oIsub ev18 oOm
 try simp only [Int32.reduceToInt,Int64.reduceToInt] at tv18
 refine Yz 20 K d13_19 U3 <|Ya 21 K d13_20 <|Yd 0 22 K d13_21 ?_
 refine Yl 3 16 .int 25 K (hw 143) (Or.inl (hw 144)) (hw 10) (oAp_0 @hw) d13_22 rfl rfl (P3 F16) <|Yd 0 26 K d13_25 ?_
 refine Yj 28 K d13_26 U4 <|Yd 0 29 K d13_28 ?_
 refine Yj 31 K d13_29 U5 <|Yd 0 32 K d13_31 ?_
 refine Yj 34 K d13_32 U6 ?_
 refine oW.loop (F:=fun z : Int32 × Int32 × Int32 × Slot × Slot × Slot × Int32 × Int32 × Int32 × Int32 × Int32 × Int32 × Int32 × List Int64 × List Value=>∃ n' t : Nat,oRS z.2.2.2.2.2.2.2.2.2.2.2.2.2.1 n' z.2.2.2.2.2.2.2.1 z.2.2.2.2.2.2.2.2.2.1 z.2.2.2.2.2.2.2.2.2.2.1 z.2.2.2.2.2.2.2.2.2.2.2.1 z.2.2.2.2.2.2.2.2.2.2.2.2.1∧z.2.2.2.2.2.2.2.2.2.2.2.2.2.1.length=rds.length∧z.2.2.2.2.2.2.2.2.2.2.2.2.2.2.length=cvs.length∧n'≤t∧t≤cnt∧(∀ (i : Nat) (x : Int64),i < t→ocs[i]?=some x→x.toInt < (z.1.toInt + 1) * 4294967296)∧0≤z.1.toInt∧0≤z.2.2.1.toInt∧z.2.2.1.toInt≤1∧0≤z.2.2.2.2.2.2.1.toInt∧z.2.2.2.2.2.2.1.toInt≤z.2.2.1.toInt∧(z.2.2.1.toInt≤0→z.1.toInt≤x0.toInt + v18.toInt)∧oDead z.2.2.2.1∧oDead z.2.2.2.2.1∧oDead z.2.2.2.2.2.1) (mu:=fun z=>1 - z.2.2.1.toInt.toNat) (pcj:=34) (Lf:=fun z=>#[.val (.ref b3),.val (.double wv),.second,.val (.int v18),.val (.int z.1),.val (.int z.2.1),.val (.int z.2.2.1),z.2.2.2.1,z.2.2.2.2.1,z.2.2.2.2.2.1]) (Sf:=fun z=>[]) (dsf:=fun z=>[(b0,.inl (.int,[.int x0])),(b1,.inl (.int,[.int y0,.int y1])),(b2,D2),(b3,oP b10 b13' b11 b12 b4 b5 b6 b7 b8 b9 (.int 2) (.ref b0) f_mc (.int cn) (.int dl) (.int 2) (.int z.2.2.2.2.2.2.1) (.int z.2.2.2.2.2.2.2.1) (.int z.2.2.2.2.2.2.2.2.1) (.int z.2.2.2.2.2.2.2.2.2.1)),(b4,D4),(b5,D5),(b6,.inl (.int,[.int 0,.int 1,.int 2147483647])),(b7,D7),(b8,.inl (.array .int,[.ref b0,.ref b1,q2])),(b9,.inl (.int,[(.int z.2.2.2.2.2.2.2.2.2.2.1),(.int z.2.2.2.2.2.2.2.2.2.2.2.1),(.int z.2.2.2.2.2.2.2.2.2.2.2.2.1)])),(b10,.inl (.long,(ocs.map Value.long))),(b11,.inl (.long,(z.2.2.2.2.2.2.2.2.2.2.2.2.2.1.map Value.long))),(b12,.inl (.int,z.2.2.2.2.2.2.2.2.2.2.2.2.2.2)),(b13',.inl (.int,[.int e0]))]) ?_ ((0 : Int32),(0 : Int32),(0 : Int32),(.unset : Slot),(.unset : Slot),(.unset : Slot),(0 : Int32),(0 : Int32),(0 : Int32),(0 : Int32),(0 : Int32),(0 : Int32),(0 : Int32),rds,cvs) (by dsimp only; have:=oTs; exact ⟨0,0,oRS.z,rfl,rfl,Nat.le_refl _,Nat.zero_le _,fun i x h=>absurd h (Nat.not_lt_zero _),by decide,by decide,by omega,by decide,by decide,fun _=>by omega,Or.inl rfl,Or.inl rfl,Or.inl rfl⟩)
 rintro ⟨bq,la,ix,s1,s2,s3,ccL,rcL,hdL,eaL,k0L,k1L,k2L,rdsL,cvsL⟩ hF34 IH34
 dsimp only at hF34 IH34 ⊢
 obtain ⟨n',t,h1,h2,h3,ht1,ht2,h6,h7,h8,h9,h10,h11,ha0,f1,f2,f3⟩:=hF34
 refine Yb 36 K d13_34 <|Ya 37 K d13_36 <|Yc 3 11 40 K (hw 59) d13_37 <|Yf 0 1 41 K d13_40 ?_
 refine Gm 139 44 K d13_41 (fun c41=>?_) (fun c41=>?_)
 ·simp only [oLt32,oEq32,Int32.reduceToInt] at c41
  refine Ya 140 K d13_139 ?_
  refine Ge b3 nM12 [] [] 0 1 2 143 K (hw 145) (hw 147) (hw 50) (hw 146) (hw 148) (hw 11) (own_restart @hw (n:=n') h1.1 (by omega) h1.2.2.2.1 h1.2.2.2.2.1 h1.2.2.2.2.2.1 h1.2.2.2.2.2.2) (lenOf pd_4 rfl) d13_140 ?_
  rintro _ rfl
  refine Ya 144 K d13_143 <|Yc 3 16 147 K (hw 143) d13_144 ?_
  exact Yq K d13_147 ⟨_,rfl,_,_,_,_,_,rfl,rfl,h2,h3⟩
 simp only [oLt32,oEq32,Int32.reduceToInt] at c41
 have hix : ix=0:=by simp only [oEq32,Int32.reduceToInt]; omega
 rcases hix with hix
 subst hix
 simp only [Int32.reduceToInt] at h8 h9 h10 h11 ha0
 refine Ya 45 K d13_44 <|Yc 3 11 48 K (hw 59) d13_45 <|Yb 50 K d13_48 <|Yn 0 0 51 K d13_50 ?_
 refine oW.istore (Ls':=#[.val (.ref b3),.val (.double wv),.second,.val (.int v18),.val (.int bq),.val (.int la),.val (.int 0),.val (.int x0),s2,s3]) (pc':=53) K d13_51 (oStoreDead rfl f1 rfl) rfl ?_
 refine Ya 54 K d13_53 <|Yc 3 1 57 K (hw 21) d13_54 <|Yb 59 K d13_57 <|Yn 13 0 60 K d13_59 <|Yd 1 61 K d13_60 ?_
 obtain ⟨v61,ev61⟩:=oE (e0 + (1 : Int32) : Int32)
 refine Y0 62 K d13_61 ev61 ?_
 obtain ⟨v62,ev62⟩:=oE (FP.i2d v61 : UInt64)
 have dv62:=oI2D ev62
 refine Gh 63 K d13_62 ev62 <|Y1 64 K d13_63 ?_
 obtain ⟨v64,ev64⟩:=oE (cmpValue (FP.dcmp v62 wv) .l : Int32)
 refine Gi 65 K d13_64 ev64 ?_
 refine Hg 133 68 K d13_65 (fun c65=>?_) (fun c65=>?_)
 ·refine Yg 1 136 K d13_133 U6 <|Yi 34 K d13_136 ?_
  exact IH34 (bq,la,(1 : Int32),(.val (.int x0) : Slot),(s2 : Slot),(s3 : Slot),ccL,rcL,hdL,eaL,k0L,k1L,k2L,rdsL,cvsL) (by dsimp only; have:=oTs; exact ⟨n',t,h1,h2,h3,ht1,ht2,h6,by omega,by omega,by omega,by omega,by omega,fun _=>by omega,Or.inr ⟨_,rfl⟩,f2,f3⟩) (by dsimp only; have:=oTs; omega)
 refine Yb 70 K d13_68 <|Yb 72 K d13_70 ?_
 refine Hd 78 75 K d13_72 (fun c72=>?_) (fun c72=>?_)
 ·simp only [oLt32,oEq32,Int32.reduceToInt] at c72
  refine Yb 80 K d13_78 ?_
  obtain ⟨v80,ev80⟩:=oE (x0.toInt64 : Int64)
  refine Gd 81 K d13_80 ev80 ?_
  have tv80 : v80.toInt=_:=oI2L ev80
  refine Ye 82 K d13_81 ?_
  obtain ⟨v82,ev82⟩:=oE (v18.toInt64 : Int64)
  refine Gd 83 K d13_82 ev82 ?_
  have tv82 : v82.toInt=_:=oI2L ev82
  obtain ⟨v83,ev83⟩:=oE (v80 + v82 : Int64)
  refine Gv 84 K d13_83 ev83 ?_
  have tv83:=oLadd ev83 oOm
  try simp only [Int32.reduceToInt,Int64.reduceToInt] at tv83
  refine Gx 87 K (hw 156) d13_84 ?_
  refine Yk [.long v83,.long 2147483647] [] 0 1 2 90 K (hw 157) (hw 158) (hw 7) (hw 159) (own_minJ @hw) (lenOf pd_17 rfl) d13_87 ?_
  rintro _ _ ⟨mj87,rfl,tmj87,rfl⟩
  rw [show (2147483647 : Int64).toInt=2147483647 by decide] at tmj87
  obtain ⟨v90,ev90⟩:=oE (mj87.toInt32 : Int32)
  refine Gs 91 K d13_90 ev90 ?_
  have tv90:=oL2I ev90 (by omega)
  refine oW.istore (Ls':=#[.val (.ref b3),.val (.double wv),.second,.val (.int v18),.val (.int bq),.val (.int la),.val (.int 0),.val (.int x0),.val (.int v90),s3]) (pc':=93) K d13_91 (oStoreDead rfl f2 rfl) rfl ?_
  refine Ya 94 K d13_93 <|Yb 96 K d13_94 <|Yd 1 97 K d13_96 ?_
  obtain ⟨v97,ev97⟩:=oE (bq + (1 : Int32) : Int32)
  refine Y0 98 K d13_97 ev97 ?_
  have tv97:=oIadd ev97 oOm
  try simp only [Int32.reduceToInt,Int64.reduceToInt] at tv97
  refine Yb 100 K d13_98 <|Ye 101 K d13_100 ?_
  obtain ⟨v101,ev101⟩:=oE (x0 - v18 : Int32)
  refine Y9 102 K d13_101 ev101 ?_
  have tv101:=oIsub ev101 oOm
  try simp only [Int32.reduceToInt,Int64.reduceToInt] at tv101
  refine Yk [.int v97,.int v101] [.ref b3] 1 1 2 105 K (hw 73) (hw 6) (hw 7) (hw 8) (own_max @hw) (lenOf pd_9 rfl) d13_102 ?_
  rintro _ _ ⟨lo102,rfl,tlo102,rfl⟩
  try simp only [Int32.reduceToInt] at tlo102
  refine Yb 107 K d13_105 <|Y1 108 K d13_107 ?_
  refine Gk b3 nM12 [.int lo102,.int v90,.double wv] [] 0 1 2 111 K (hw 160) (hw 162) (hw 50) (hw 161) (hw 163) (hw 11) (own_rrG @hw hcn hO hs hol h1 ⟨by omega,by omega⟩ ⟨by omega,by omega,by omega⟩ (by omega) (by omega) (by omega) ⟨t,ht1,ht2,fun i x h q=>by have:=h6 i x h q; omega⟩) (lenOf pd_18 rfl) d13_108 ?_
  rintro _ _ ⟨rds',cvs',rc',hd',ea',cc',k0',k1',k2',z,n2,rfl,rfl,hl1,hl2,hrs',hcase⟩
  rcases hcase with ⟨hz,hce,t2,ht1',ht2',ht3'⟩|⟨hz1,hz2,hce,hn2⟩
  ·subst hz
   subst hce
   refine oW.istore (Ls':=#[.val (.ref b3),.val (.double wv),.second,.val (.int v18),.val (.int bq),.val (.int la),.val (.int 0),.val (.int x0),.val (.int v90),.val (.int 0)]) (pc':=113) K d13_111 (oStoreDead rfl f3 rfl) rfl ?_
   refine Yb 115 K d13_113 ?_
   refine Gc 125 118 K d13_115 <|Yb 120 K d13_118 ?_
   refine Yj 122 K d13_120 U4 <|Yi 133 K d13_122 ?_
   refine Yg 1 136 K d13_133 U6 <|Yi 34 K d13_136 ?_
   exact IH34 (v90,la,(1 : Int32),(.val (.int x0) : Slot),(.val (.int v90) : Slot),(.val (.int 0) : Slot),ccL,rc',hd',ea',k0',k1',k2',rds',cvs') (by dsimp only; have:=oTs; exact ⟨n2,t2,hrs',hl1.trans h2,hl2.trans h3,ht1',ht2',ht3',by omega,by omega,by omega,by omega,by omega,fun _=>by omega,Or.inr ⟨_,rfl⟩,Or.inr ⟨_,rfl⟩,Or.inr ⟨_,rfl⟩⟩) (by dsimp only; have:=oTs; omega)
  refine oW.istore (Ls':=#[.val (.ref b3),.val (.double wv),.second,.val (.int v18),.val (.int bq),.val (.int la),.val (.int 0),.val (.int x0),.val (.int v90),.val (.int z)]) (pc':=113) K d13_111 (oStoreDead rfl f3 rfl) rfl ?_
  refine Yb 115 K d13_113 ?_
  refine oW.if_ne (pc':=125) (pc3:=118) K d13_115 (by decide) (by decide) rfl (fun c115=>?_) (fun q=>(by simp only [oLt32,oEq32,Int32.reduceToInt] at q; omega))
  refine Yb 127 K d13_125 ?_
  refine Yj 129 K d13_127 U4 <|Yb 131 K d13_129 ?_
  refine Yj 133 K d13_131 U5 ?_
  refine Yg 1 136 K d13_133 U6 <|Yi 34 K d13_136 ?_
  exact IH34 (z,z,(1 : Int32),(.val (.int x0) : Slot),(.val (.int v90) : Slot),(.val (.int z) : Slot),cc',rc',hd',ea',k0',k1',k2',rds',cvs') (by dsimp only; have:=oTs; exact ⟨n2,0,hrs',hl1.trans h2,hl2.trans h3,by omega,Nat.zero_le _,fun i x h=>absurd h (Nat.not_lt_zero _),by omega,by omega,by omega,by omega,by omega,fun _=>by omega,Or.inr ⟨_,rfl⟩,Or.inr ⟨_,rfl⟩,Or.inr ⟨_,rfl⟩⟩) (by dsimp only; have:=oTs; omega)
 simp only [oLt32,oEq32,Int32.reduceToInt] at c72
 refine Yi 133 K d13_75 ?_
 refine Yg 1 136 K d13_133 U6 <|Yi 34 K d13_136 ?_
 exact IH34 (bq,la,(1 : Int32),(.val (.int x0) : Slot),(s2 : Slot),(s3 : Slot),ccL,rcL,hdL,eaL,k0L,k1L,k2L,rdsL,cvsL) (by dsimp only; have:=oTs; exact ⟨n',t,h1,h2,h3,ht1,ht2,h6,by omega,by omega,by omega,by omega,by omega,fun _=>by omega,Or.inr ⟨_,rfl⟩,f2,f3⟩) (by dsimp only; have:=oTs; omega)
theorem own_copy_0_2 (hw : oHw a0 Z) {D0 D1 D2 D3 D4 D5 D6 D7 D8 D9 D11 D12 D13 : oDsc} :
  oCtr l Z h0 [] nM27 jdk_65_method_124_code 3 (some (.array .long)) (oR 1 1 2 48) #[.ref b10,.int 2] [(b0,D0),(b1,D1),(b2,D2),(b3,D3),(b4,D4),(b5,D5),(b6,D6),(b7,D7),(b8,D8),(b9,D9),(b10,.inl (.long,[])),(b11,D11),(b12,D12),(b13,D13)] (oVal fun w d=>∃ b14 : Addr,w=.ref b14∧d=[(b0,D0),(b1,D1),(b2,D2),(b3,D3),(b4,D4),(b5,D5),(b6,D6),(b7,D7),(b8,D8),(b9,D9),(b10,.inl (.long,[])),(b11,D11),(b12,D12),(b13,D13),(b14,.inl (.long,[.long 0,.long 0]))]):=by
 refine oCo #[.val (.ref b10),.val (.int 2),.unset] ?_
 intro p e s m below meth c K
 refine Ye 1 K d9_0 <|Ya 2 K d9_1 <|Yf 10 0 3 K d9_2 ?_
 refine Gj 14 6 K d9_3 <|Ye 15 K d9_14 ?_
 refine Y3 2 1 2 17 K (hw 18) d9_15 (N14 (.inl (.long,[.long 0,.long 0]))) ?_
 intro a15 ha15
 refine Gl 18 K d9_17 U2 <|Ya 19 K d9_18 <|Yd 0 20 K d9_19 <|Ya 21 K d9_20 <|Yd 0 22 K d9_21 <|Ya 23 K d9_22 <|Yf 10 0 24 K d9_23 <|Ye 25 K d9_24 ?_
 refine Yk [.int 0,.int 2] [.int 0,.ref a15,.int 0,.ref b10] 4 1 2 28 K (hw 77) (hw 78) (hw 7) (hw 79) (own_min @hw) (lenOf pd_9 rfl) d9_25 ?_
 rintro _ _ ⟨mz,rfl,hmz,rfl⟩
 obtain rfl : mz=(0 : Int32):=oEq32.mpr (hmz.trans (by decide))
 refine oW.copyJ (W:=0) (i1:=10) (i2:=14) (xs:=[]) (us:=[0,0]) (ds':=[(b0,D0),(b1,D1),(b2,D2),(b3,D3),(b4,D4),(b5,D5),(b6,D6),(b7,D7),(b8,D8),(b9,D9),(b10,.inl (.long,[])),(b11,D11),(b12,D12),(b13,D13),(a15,.inl (.long,[.long 0,.long 0]))]) (pc':=31) K (hw 80) (hw 83) (hw 81) (hw 82) d9_28 rfl rfl rfl rfl rfl (Nat.le_of_ble_eq_true rfl) (by decide) rfl rfl (by decide) (Nat.le_of_eq rfl) (by decide) rfl ?_
 refine Ya 32 K d9_31 ?_
 exact G0 K d9_32 ⟨_,rfl,_,rfl,rfl⟩
theorem own_aw_0_0_2 (hw : oHw a0 Z) {D1 D2 D3 D4 D5 D6 D7 D8 D9 D11 D12 D13 : oDsc} {t0 t1 : Int64} {rt : List Value} {y0 y1 : Int32} (hy0 : 1≤y0.toInt∧y0.toInt≤100000) (hy1 : 1≤y1.toInt∧y1.toInt≤100000) (hy0y1 : y0.toInt < y1.toInt) (hch : oCh []) :
  oCtr l Z h0 [] nM28 prog_6_method_3_code 9 (some .int) (oR 1 0 0 24) #[.ref b10,.int 0,.ref b0,.int 0] [(b0,.inl (.int,[.int y0,.int y1])),(b1,D1),(b2,D2),(b3,D3),(b4,D4),(b5,D5),(b6,D6),(b7,D7),(b8,D8),(b9,D9),(b10,.inl (.long,(.long t0)::(.long t1)::rt)),(b11,D11),(b12,D12),(b13,D13)] (oVal fun w d=>∃ (z0 z1 : Int64),w=.int 2∧d=[(b0,.inl (.int,[.int y0,.int y1])),(b1,D1),(b2,D2),(b3,D3),(b4,D4),(b5,D5),(b6,D6),(b7,D7),(b8,D8),(b9,D9),(b10,.inl (.long,(.long z0)::(.long z1)::rt)),(b11,D11),(b12,D12),(b13,D13)]∧oCh [z0,z1]∧∀ v : Int,(v=z0.toInt∨v=z1.toInt) ↔ (v=y0.toInt * 4294967296 + 0∨v=y1.toInt * 4294967296 + 0)):=by
 refine oCo #[.val (.ref b10),.val (.int 0),.val (.ref b0),.val (.int 0),.unset,.unset,.unset,.unset,.unset] ?_
 intro p e s m below meth c K
 refine Ye 1 K d11_0 <|Ya 2 K d11_1 <|Yf 0 2 3 K d11_2 ?_
 refine Ym 2 4 K d11_3 <|Yd 1 5 K d11_4 ?_
 refine Y4 1 6 K d11_5 ?_
 refine Yj 8 K d11_6 U4 <|Ye 9 K d11_8 <|Yd 1 10 K d11_9 ?_
 refine Y4 (-1 : Int32) 11 K d11_10 ?_
 refine Yj 13 K d11_11 U5 <|Ya 14 K d11_13 <|Yf 0 2 15 K d11_14 <|Yd 1 16 K d11_15 ?_
 refine Y4 1 17 K d11_16 ?_
 refine Yj 19 K d11_17 U6 <|Yb 21 K d11_19 ?_
 refine Yw 81 24 K d11_21 <|Ya 25 K d11_24 <|Yb 27 K d11_25 <|Yn 0 1 28 K d11_27 <|Ye 29 K d11_28 ?_
 refine Yk [.int y1,.int 0] [] 0 0 0 32 K (hw 88) (hw 89) (hw 86) (hw 90) (own_of @hw (by omega) (by decide)) (lenOf pd_2 rfl) d11_29 ?_
 rintro _ _ ⟨c1,rfl,tc1,rfl⟩
 simp only [Int32.reduceToInt] at tc1
 refine Gf #[.val (.ref b10),.val (.int 0),.val (.ref b0),.val (.int 0),.val (.int 1),.val (.int (-1)),.val (.int 1),.val (.long c1),.second] 34 K d11_32 <|Yb 36 K d11_34 ?_
 refine Ys 66 39 K d11_36 <|Ya 67 K d11_66 <|Yb 69 K d11_67 ?_
 refine Yg 0 72 K d11_69 U4 <|Yo 74 K d11_72 ?_
 refine Yp 10 1 75 K d11_74 rfl oL1 (S10 T1) ?_
 refine Yg 0 78 K d11_75 U6 <|Yi 19 K d11_78 <|Yb 21 K d11_19 ?_
 refine Yw 81 24 K d11_21 <|Ya 25 K d11_24 <|Yb 27 K d11_25 <|Yn 0 0 28 K d11_27 <|Ye 29 K d11_28 ?_
 refine Yk [.int y0,.int 0] [] 0 0 0 32 K (hw 88) (hw 89) (hw 86) (hw 90) (own_of @hw (by omega) (by decide)) (lenOf pd_2 rfl) d11_29 ?_
 rintro _ _ ⟨c0,rfl,tc0,rfl⟩
 simp only [Int32.reduceToInt] at tc0
 refine Gf #[.val (.ref b10),.val (.int 0),.val (.ref b0),.val (.int 0),.val (.int 0),.val (.int (-1)),.val (.int 0),.val (.long c0),.second] 34 K d11_32 <|Yb 36 K d11_34 ?_
 refine Ys 66 39 K d11_36 <|Ya 67 K d11_66 <|Yb 69 K d11_67 ?_
 refine Yg (-1 : Int32) 72 K d11_69 U4 <|Yo 74 K d11_72 ?_
 refine Yp 10 0 75 K d11_74 rfl oL0 (S10 T0) ?_
 refine Yg (-1 : Int32) 78 K d11_75 U6 <|Yi 19 K d11_78 <|Yb 21 K d11_19 ?_
 refine Ys 81 24 K d11_21 <|Ye 82 K d11_81 <|Ya 83 K d11_82 <|Yf 0 2 84 K d11_83 ?_
 refine Ym 2 85 K d11_84 ?_
 exact Yq K d11_85 ⟨_,rfl,_,_,rfl,rfl,⟨by omega,trivial⟩,fun v=>by omega⟩
theorem own_add0_0_2 (hw : oHw a0 Z) {D1 D2 D9 D11 D12 D13 : oDsc} {f_dl f_wi f_cc f_rc f_hd f_ea : Value} {x0 x1 : Int32} (hx0 : 1≤x0.toInt∧x0.toInt≤100000) (hx1 : 1≤x1.toInt∧x1.toInt≤100000) (hx0x1 : x0.toInt < x1.toInt) (hch : oCh []) :
  oCtr l Z h0 [] nM29 prog_7_method_3_code 5 none (oR 2 3 24 90) #[.ref b3,.int 0,.ref b0] [(b0,.inl (.int,[.int x0,.int x1])),(b1,D1),(b2,D2),(b3,oP b10 b13 b11 b12 b4 b5 b6 b7 b8 b9 (.int 0) .null (.int 0) (.int 0) f_dl f_wi f_cc f_rc f_hd f_ea),(b4,.inl (.boolean,[.int 0,.int 0,.int 0])),(b5,.inl (.int,[.int 0,.int 0,.int 0])),(b6,.inl (.int,[.int 2147483647,.int 2147483647,.int 2147483647])),(b7,.inl (.int,[.int 0,.int 0,.int 0])),(b8,.inl (.array .int,[.null,.null,.null])),(b9,D9),(b10,.inl (.long,[])),(b11,D11),(b12,D12),(b13,D13)] (oVoid fun d=>∃ (b10' b11' b12' : Addr) (z0 z1 : Int64),d=[(b0,.inl (.int,[.int x0,.int x1])),(b1,D1),(b2,D2),(b3,oP b10' b13 b11' b12' b4 b5 b6 b7 b8 b9 (.int 1) (.ref b0) (.int 1) (.int 2) f_dl (.int 0) f_cc f_rc f_hd f_ea),(b4,.inl (.boolean,[.int 1,.int 0,.int 0])),(b5,.inl (.int,[.int 0,.int 0,.int 0])),(b6,.inl (.int,[.int 0,.int 2147483647,.int 2147483647])),(b7,.inl (.int,[.int 0,.int 0,.int 0])),(b8,.inl (.array .int,[.ref b0,.null,.null])),(b9,D9),(b10',.inl (.long,[.long z0,.long z1])),(b11',.inl (.long,[.long 0,.long 0])),(b12',.inl (.int,[.int 0,.int 0])),(b13,D13)]∧oCh [z0,z1]∧∀ v : Int,(v=z0.toInt∨v=z1.toInt) ↔ (v=x0.toInt * 4294967296 + 0∨v=x1.toInt * 4294967296 + 0)):=by
 refine oCo #[.val (.ref b3),.val (.int 0),.val (.ref b0),.unset,.unset] ?_
 intro p e s m below meth c K
 refine Ya 1 K d8_0 <|Yc 3 6 4 K (hw 32) d8_1 <|Ye 5 K d8_4 <|Ya 6 K d8_5 <|Yc 3 10 9 K (hw 57) d8_6 ?_
 refine Yr 6 0 10 K d8_9 rfl (S6 T0) <|Ya 11 K d8_10 <|Yc 3 7 14 K (hw 39) d8_11 <|Ya 15 K d8_14 <|Yc 3 10 18 K (hw 57) d8_15 <|Ye 19 K d8_18 ?_
 refine Yr 7 0 20 K d8_19 rfl (S7 T0) <|Ya 21 K d8_20 <|Yc 3 8 24 K (hw 43) d8_21 <|Ya 25 K d8_24 <|Yc 3 10 28 K (hw 57) d8_25 <|Ya 29 K d8_28 ?_
 refine Go 8 0 0 30 K d8_29 rfl (S8 T0) <|Ya 31 K d8_30 ?_
 refine Yv 32 K d8_31 <|Yc 3 10 35 K (hw 57) d8_32 <|Yd 1 36 K d8_35 ?_
 refine Ym 1 37 K d8_36 ?_
 refine Yl 3 10 .int 40 K (hw 57) (Or.inl (hw 58)) (hw 10) (oAp_0 @hw) d8_37 rfl rfl (P3 F10) <|Ya 41 K d8_40 <|Yc 3 4 44 K (hw 28) d8_41 <|Ye 45 K d8_44 <|Gn 4 0 46 K d8_45 ?_
 refine Gc 149 49 K d8_46 <|Ya 50 K d8_49 <|Yc 3 4 53 K (hw 28) d8_50 <|Ye 54 K d8_53 <|Yd 1 55 K d8_54 ?_
 refine Gy 4 0 (.int (1 : Int32)) 56 K d8_55 rfl (S4 T0) <|Ya 57 K d8_56 <|Yc 3 5 60 K (hw 30) d8_57 <|Ya 61 K d8_60 ?_
 refine Yv 62 K d8_61 <|Yc 3 12 65 K (hw 61) d8_62 ?_
 refine Gg 66 K d8_65 <|Yd 1 67 K d8_66 ?_
 refine Ym 1 68 K d8_67 ?_
 refine Yl 3 12 .int 71 K (hw 61) (Or.inl (hw 62)) (hw 10) (oAp_0 @hw) d8_68 rfl rfl (P3 F12) <|Ye 72 K d8_71 ?_
 refine Yr 5 0 73 K d8_72 rfl (S5 T0) <|Ya 74 K d8_73 <|Yc 3 13 77 K (hw 63) d8_74 <|Ya 78 K d8_77 <|Yf 0 2 79 K d8_78 ?_
 refine Ym 2 80 K d8_79 ?_
 refine Yz 81 K d8_80 U3 <|Ya 82 K d8_81 <|Yc 3 0 85 K (hw 19) d8_82 <|Yf 10 0 86 K d8_85 <|Ye 87 K d8_86 ?_
 refine Yy 132 90 K d8_87 <|Ye 91 K d8_90 <|Yd 2 92 K d8_91 <|Ya 93 K d8_92 <|Yc 3 0 96 K (hw 19) d8_93 <|Yf 10 0 97 K d8_96 ?_
 refine Gq 0 98 K d8_97 ?_
 refine Yk [.int 2,.int 0] [] 0 0 0 101 K (hw 73) (hw 6) (hw 7) (hw 8) (own_max @hw) (lenOf pd_9 rfl) d8_98 ?_
 rintro _ _ ⟨mz,rfl,hmz,rfl⟩
 obtain rfl : mz=(2 : Int32):=oEq32.mpr (hmz.trans (by decide))
 refine Yj 103 K d8_101 U4 <|Ya 104 K d8_103 <|Ya 105 K d8_104 <|Yc 3 0 108 K (hw 19) d8_105 <|Yb 110 K d8_108 ?_
 refine Yk [.ref b10,.int 2] [.ref b3] 1 1 2 113 K (hw 74) (hw 75) (hw 37) (hw 76) (own_copy_0_2 @hw) (lenOf pd_13 rfl) d8_110 ?_
 rintro _ _ ⟨b14,rfl,rfl⟩
 refine Yl 3 0 (.array .long) 116 K (hw 19) (Or.inl (hw 20)) (hw 10) (oAp_0 @hw) d8_113 rfl rfl (P3 F0) <|Ya 117 K d8_116 <|Yb 119 K d8_117 ?_
 refine Y3 2 2 4 121 K (hw 18) d8_119 (N15 (.inl (.long,[.long 0,.long 0]))) ?_
 intro a119 ha119
 refine Yl 3 2 (.array .long) 124 K (hw 23) (Or.inl (hw 24)) (hw 10) (oAp_0 @hw) d8_121 rfl rfl (P3 F2) <|Ya 125 K d8_124 <|Yb 127 K d8_125 ?_
 refine Y3 2 3 6 129 K (hw 4) d8_127 (N16 (.inl (.int,[.int 0,.int 0]))) ?_
 intro a127 ha127
 refine Yl 3 3 (.array .int) 132 K (hw 25) (Or.inl (hw 26)) (hw 10) (oAp_0 @hw) d8_129 rfl rfl (P3 F3) ?_
 refine oPk1 ?_
 refine Ya 133 K d8_132 <|Ya 134 K d8_133 <|Yc 3 0 137 K (hw 19) d8_134 <|Ya 138 K d8_137 <|Yc 3 13 141 K (hw 63) d8_138 <|Ya 142 K d8_141 <|Ye 143 K d8_142 ?_
 refine Yk [.ref b14,.int 0,.ref b0,.int 0] [.ref b3] 1 3 6 146 K (hw 84) (hw 85) (hw 86) (hw 87) (own_aw_0_0_2 @hw (by omega) (by omega) (by omega) hch) (lenOf pd_14 rfl) d8_143 ?_
 rintro _ _ ⟨z0,z1,rfl,rfl,hz1,hz2⟩
 refine Yl 3 13 .int 149 K (hw 63) (Or.inl (hw 64)) (hw 10) (oAp_0 @hw) d8_146 rfl rfl (P3 F13) <|Ya 150 K d8_149 <|Yc 3 11 153 K (hw 59) d8_150 ?_
 refine Gw 168 K d8_153 <|Ya 169 K d8_168 <|Ya 170 K d8_169 ?_
 refine Yl 3 11 (.array .int) 173 K (hw 59) (Or.inl (hw 60)) (hw 10) (oAp_0 @hw) d8_170 rfl rfl (P3 F11) <|Ya 174 K d8_173 <|Yd 0 175 K d8_174 ?_
 refine Yl 3 15 .int 178 K (hw 91) (Or.inl (hw 92)) (hw 10) (oAp_0 @hw) d8_175 rfl rfl (P3 F15) ?_
 exact Ga K d8_178 ⟨rfl,_,_,_,_,_,rfl,hz1,hz2⟩
theorem own_aw_1_2_1 (hw : oHw a0 Z) {D0 D2 D3 D4 D5 D6 D7 D8 D9 D11 D12 D13 : oDsc} {g0 g1 t0 : Int64} {rt : List Value} {y0 : Int32} (hy0 : 1≤y0.toInt∧y0.toInt≤100000) (hch : oCh [g0,g1]) (hne00 : g0.toInt ≠ y0.toInt * 4294967296 + 1) (hne10 : g1.toInt ≠ y0.toInt * 4294967296 + 1) :
  oCtr l Z h0 [] nM28 prog_6_method_3_code 9 (some .int) (oR 1 0 0 24) #[.ref b10,.int 2,.ref b1,.int 1] [(b0,D0),(b1,.inl (.int,[.int y0])),(b2,D2),(b3,D3),(b4,D4),(b5,D5),(b6,D6),(b7,D7),(b8,D8),(b9,D9),(b10,.inl (.long,(.long g0)::(.long g1)::(.long t0)::rt)),(b11,D11),(b12,D12),(b13,D13)] (oVal fun w d=>∃ (z0 z1 z2 : Int64),w=.int 3∧d=[(b0,D0),(b1,.inl (.int,[.int y0])),(b2,D2),(b3,D3),(b4,D4),(b5,D5),(b6,D6),(b7,D7),(b8,D8),(b9,D9),(b10,.inl (.long,(.long z0)::(.long z1)::(.long z2)::rt)),(b11,D11),(b12,D12),(b13,D13)]∧oCh [z0,z1,z2]∧∀ v : Int,(v=z0.toInt∨v=z1.toInt∨v=z2.toInt) ↔ ((v=g0.toInt∨v=g1.toInt)∨(v=y0.toInt * 4294967296 + 1))):=by
 refine oCo #[.val (.ref b10),.val (.int 2),.val (.ref b1),.val (.int 1),.unset,.unset,.unset,.unset,.unset] ?_
 intro p e s m below meth c K
 simp only [oCh,and_true] at hch
 refine Ye 1 K d11_0 <|Ya 2 K d11_1 <|Yf 1 1 3 K d11_2 ?_
 refine Ym 3 4 K d11_3 <|Yd 1 5 K d11_4 ?_
 refine Y4 2 6 K d11_5 ?_
 refine Yj 8 K d11_6 U4 <|Ye 9 K d11_8 <|Yd 1 10 K d11_9 ?_
 refine Y4 1 11 K d11_10 ?_
 refine Yj 13 K d11_11 U5 <|Ya 14 K d11_13 <|Yf 1 1 15 K d11_14 <|Yd 1 16 K d11_15 ?_
 refine Y4 0 17 K d11_16 ?_
 refine Yj 19 K d11_17 U6 <|Yb 21 K d11_19 ?_
 refine Yw 81 24 K d11_21 <|Ya 25 K d11_24 <|Yb 27 K d11_25 <|Yn 1 0 28 K d11_27 <|Ye 29 K d11_28 ?_
 refine Yk [.int y0,.int 1] [] 0 0 0 32 K (hw 88) (hw 89) (hw 86) (hw 90) (own_of @hw (by omega) (by decide)) (lenOf pd_2 rfl) d11_29 ?_
 rintro _ _ ⟨c0,rfl,tc0,rfl⟩
 simp only [Int32.reduceToInt] at tc0
 refine Gf #[.val (.ref b10),.val (.int 2),.val (.ref b1),.val (.int 1),.val (.int 2),.val (.int 1),.val (.int 0),.val (.long c0),.second] 34 K d11_32 <|Yb 36 K d11_34 ?_
 refine Yw 66 39 K d11_36 <|Ya 40 K d11_39 <|Yb 42 K d11_40 <|Yt 10 1 43 K d11_42 <|Yo 45 K d11_43 ?_
 obtain ⟨v45,ev45⟩:=oE (XT.cmpL g1 c0 : Int32)
 refine Y6 46 K d11_45 ev45 ?_
 refine Y2 66 49 K d11_46 (fun c46=>?_) (fun c46=>?_)
 ·rw [(oLcmp ev45).2.2] at c46
  refine Ya 67 K d11_66 <|Yb 69 K d11_67 ?_
  refine Yg 1 72 K d11_69 U4 <|Yo 74 K d11_72 ?_
  refine Yp 10 2 75 K d11_74 rfl oL2 (S10 T2) ?_
  refine Yg (-1 : Int32) 78 K d11_75 U6 <|Yi 19 K d11_78 <|Yb 21 K d11_19 ?_
  refine Ys 81 24 K d11_21 <|Ye 82 K d11_81 <|Ya 83 K d11_82 <|Yf 1 1 84 K d11_83 ?_
  refine Ym 3 85 K d11_84 ?_
  exact Yq K d11_85 ⟨_,rfl,_,_,_,rfl,rfl,⟨by omega,by omega,trivial⟩,fun v=>by omega⟩
 rw [(oLcmp ev45).2.2] at c46
 refine Ya 50 K d11_49 <|Yb 52 K d11_50 ?_
 refine Yg 1 55 K d11_52 U4 <|Ya 56 K d11_55 <|Yb 58 K d11_56 ?_
 refine Yg 0 61 K d11_58 U5 <|Yt 10 1 62 K d11_61 ?_
 refine Yp 10 2 63 K d11_62 rfl oL2 (S10 T2) <|Yi 34 K d11_63 <|Yb 36 K d11_34 ?_
 refine Yw 66 39 K d11_36 <|Ya 40 K d11_39 <|Yb 42 K d11_40 <|Yt 10 0 43 K d11_42 <|Yo 45 K d11_43 ?_
 obtain ⟨v45_1,ev45_1⟩:=oE (XT.cmpL g0 c0 : Int32)
 refine Y6 46 K d11_45 ev45_1 ?_
 refine Y2 66 49 K d11_46 (fun c46_1=>?_) (fun c46_1=>?_)
 ·rw [(oLcmp ev45_1).2.2] at c46_1
  refine Ya 67 K d11_66 <|Yb 69 K d11_67 ?_
  refine Yg 0 72 K d11_69 U4 <|Yo 74 K d11_72 ?_
  refine Yp 10 1 75 K d11_74 rfl oL1 (S10 T1) ?_
  refine Yg (-1 : Int32) 78 K d11_75 U6 <|Yi 19 K d11_78 <|Yb 21 K d11_19 ?_
  refine Ys 81 24 K d11_21 <|Ye 82 K d11_81 <|Ya 83 K d11_82 <|Yf 1 1 84 K d11_83 ?_
  refine Ym 3 85 K d11_84 ?_
  exact Yq K d11_85 ⟨_,rfl,_,_,_,rfl,rfl,⟨by omega,by omega,trivial⟩,fun v=>by omega⟩
 rw [(oLcmp ev45_1).2.2] at c46_1
 refine Ya 50 K d11_49 <|Yb 52 K d11_50 ?_
 refine Yg 0 55 K d11_52 U4 <|Ya 56 K d11_55 <|Yb 58 K d11_56 ?_
 refine Yg (-1 : Int32) 61 K d11_58 U5 <|Yt 10 0 62 K d11_61 ?_
 refine Yp 10 1 63 K d11_62 rfl oL1 (S10 T1) <|Yi 34 K d11_63 <|Yb 36 K d11_34 ?_
 refine Ys 66 39 K d11_36 <|Ya 67 K d11_66 <|Yb 69 K d11_67 ?_
 refine Yg (-1 : Int32) 72 K d11_69 U4 <|Yo 74 K d11_72 ?_
 refine Yp 10 0 75 K d11_74 rfl oL0 (S10 T0) ?_
 refine Yg (-1 : Int32) 78 K d11_75 U6 <|Yi 19 K d11_78 <|Yb 21 K d11_19 ?_
 refine Ys 81 24 K d11_21 <|Ye 82 K d11_81 <|Ya 83 K d11_82 <|Yf 1 1 84 K d11_83 ?_
 refine Ym 3 85 K d11_84 ?_
 exact Yq K d11_85 ⟨_,rfl,_,_,_,rfl,rfl,⟨by omega,by omega,trivial⟩,fun v=>by omega⟩
theorem own_add1_1_21 (hw : oHw a0 Z) {D2 D9 D11 D12 D13 : oDsc} {f_dl f_wi f_cc f_rc f_hd f_ea : Value} {g0 g1 : Int64} {x0 x1 y0 : Int32} (hy0 : 1≤y0.toInt∧y0.toInt≤100000) (hch : oCh [g0,g1]) (hne00 : g0.toInt ≠ y0.toInt * 4294967296 + 1) (hne10 : g1.toInt ≠ y0.toInt * 4294967296 + 1) :
  oCtr l Z h0 [] nM29 prog_7_method_3_code 5 none (oR 2 3 24 90) #[.ref b3,.int 1,.ref b1] [(b0,.inl (.int,[.int x0,.int x1])),(b1,.inl (.int,[.int y0])),(b2,D2),(b3,oP b10 b13 b11 b12 b4 b5 b6 b7 b8 b9 (.int 1) (.ref b0) (.int 1) (.int 2) f_dl f_wi f_cc f_rc f_hd f_ea),(b4,.inl (.boolean,[.int 1,.int 0,.int 0])),(b5,.inl (.int,[.int 0,.int 0,.int 0])),(b6,.inl (.int,[.int 0,.int 2147483647,.int 2147483647])),(b7,.inl (.int,[.int 0,.int 0,.int 0])),(b8,.inl (.array .int,[.ref b0,.null,.null])),(b9,D9),(b10,.inl (.long,[.long g0,.long g1])),(b11,D11),(b12,D12),(b13,D13)] (oVoid fun d=>∃ (b10' b11' b12' : Addr) (z0 z1 z2 : Int64),d=[(b0,.inl (.int,[.int x0,.int x1])),(b1,.inl (.int,[.int y0])),(b2,D2),(b3,oP b10' b13 b11' b12' b4 b5 b6 b7 b8 b9 (.int 2) (.ref b1) (.int 2) (.int 3) f_dl (.int 0) f_cc f_rc f_hd f_ea),(b4,.inl (.boolean,[.int 1,.int 1,.int 0])),(b5,.inl (.int,[.int 0,.int 1,.int 0])),(b6,.inl (.int,[.int 0,.int 1,.int 2147483647])),(b7,.inl (.int,[.int 0,.int 1,.int 0])),(b8,.inl (.array .int,[.ref b0,.ref b1,.null])),(b9,D9),(b10',.inl (.long,[.long z0,.long z1,.long z2,.long 0])),(b11',.inl (.long,[.long 0,.long 0,.long 0,.long 0])),(b12',.inl (.int,[.int 0,.int 0,.int 0,.int 0])),(b13,D13)]∧oCh [z0,z1,z2]∧∀ v : Int,(v=z0.toInt∨v=z1.toInt∨v=z2.toInt) ↔ ((v=g0.toInt∨v=g1.toInt)∨(v=y0.toInt * 4294967296 + 1))):=by
 refine oCo #[.val (.ref b3),.val (.int 1),.val (.ref b1),.unset,.unset] ?_
 intro p e s m below meth c K
 refine Ya 1 K d8_0 <|Yc 3 6 4 K (hw 32) d8_1 <|Ye 5 K d8_4 <|Ya 6 K d8_5 <|Yc 3 10 9 K (hw 57) d8_6 ?_
 refine Yr 6 1 10 K d8_9 rfl (S6 T1) <|Ya 11 K d8_10 <|Yc 3 7 14 K (hw 39) d8_11 <|Ya 15 K d8_14 <|Yc 3 10 18 K (hw 57) d8_15 <|Ye 19 K d8_18 ?_
 refine Yr 7 1 20 K d8_19 rfl (S7 T1) <|Ya 21 K d8_20 <|Yc 3 8 24 K (hw 43) d8_21 <|Ya 25 K d8_24 <|Yc 3 10 28 K (hw 57) d8_25 <|Ya 29 K d8_28 ?_
 refine Go 8 1 1 30 K d8_29 rfl (S8 T1) <|Ya 31 K d8_30 ?_
 refine Yv 32 K d8_31 <|Yc 3 10 35 K (hw 57) d8_32 <|Yd 1 36 K d8_35 ?_
 refine Ym 2 37 K d8_36 ?_
 refine Yl 3 10 .int 40 K (hw 57) (Or.inl (hw 58)) (hw 10) (oAp_0 @hw) d8_37 rfl rfl (P3 F10) <|Ya 41 K d8_40 <|Yc 3 4 44 K (hw 28) d8_41 <|Ye 45 K d8_44 <|Gn 4 1 46 K d8_45 ?_
 refine Gc 149 49 K d8_46 <|Ya 50 K d8_49 <|Yc 3 4 53 K (hw 28) d8_50 <|Ye 54 K d8_53 <|Yd 1 55 K d8_54 ?_
 refine Gy 4 1 (.int (1 : Int32)) 56 K d8_55 rfl (S4 T1) <|Ya 57 K d8_56 <|Yc 3 5 60 K (hw 30) d8_57 <|Ya 61 K d8_60 ?_
 refine Yv 62 K d8_61 <|Yc 3 12 65 K (hw 61) d8_62 ?_
 refine Gg 66 K d8_65 <|Yd 1 67 K d8_66 ?_
 refine Ym 2 68 K d8_67 ?_
 refine Yl 3 12 .int 71 K (hw 61) (Or.inl (hw 62)) (hw 10) (oAp_0 @hw) d8_68 rfl rfl (P3 F12) <|Ye 72 K d8_71 ?_
 refine Yr 5 1 73 K d8_72 rfl (S5 T1) <|Ya 74 K d8_73 <|Yc 3 13 77 K (hw 63) d8_74 <|Ya 78 K d8_77 <|Yf 1 1 79 K d8_78 ?_
 refine Ym 3 80 K d8_79 ?_
 refine Yz 81 K d8_80 U3 <|Ya 82 K d8_81 <|Yc 3 0 85 K (hw 19) d8_82 <|Yf 10 2 86 K d8_85 <|Ye 87 K d8_86 ?_
 refine Yy 132 90 K d8_87 <|Ye 91 K d8_90 <|Yd 2 92 K d8_91 <|Ya 93 K d8_92 <|Yc 3 0 96 K (hw 19) d8_93 <|Yf 10 2 97 K d8_96 ?_
 refine Gq 4 98 K d8_97 ?_
 refine Yk [.int 3,.int 4] [] 0 0 0 101 K (hw 73) (hw 6) (hw 7) (hw 8) (own_max @hw) (lenOf pd_9 rfl) d8_98 ?_
 rintro _ _ ⟨mz,rfl,hmz,rfl⟩
 obtain rfl : mz=(4 : Int32):=oEq32.mpr (hmz.trans (by decide))
 refine Yj 103 K d8_101 U4 <|Ya 104 K d8_103 <|Ya 105 K d8_104 <|Yc 3 0 108 K (hw 19) d8_105 <|Yb 110 K d8_108 ?_
 refine Yk [.ref b10,.int 4] [.ref b3] 1 1 4 113 K (hw 74) (hw 75) (hw 37) (hw 76) (own_copy_2_4 @hw) (lenOf pd_13 rfl) d8_110 ?_
 rintro _ _ ⟨b14,rfl,rfl⟩
 refine Yl 3 0 (.array .long) 116 K (hw 19) (Or.inl (hw 20)) (hw 10) (oAp_0 @hw) d8_113 rfl rfl (P3 F0) <|Ya 117 K d8_116 <|Yb 119 K d8_117 ?_
 refine Y3 4 2 8 121 K (hw 18) d8_119 (N15 (.inl (.long,[.long 0,.long 0,.long 0,.long 0]))) ?_
 intro a119 ha119
 refine Yl 3 2 (.array .long) 124 K (hw 23) (Or.inl (hw 24)) (hw 10) (oAp_0 @hw) d8_121 rfl rfl (P3 F2) <|Ya 125 K d8_124 <|Yb 127 K d8_125 ?_
 refine Y3 4 3 12 129 K (hw 4) d8_127 (N16 (.inl (.int,[.int 0,.int 0,.int 0,.int 0]))) ?_
 intro a127 ha127
 refine Yl 3 3 (.array .int) 132 K (hw 25) (Or.inl (hw 26)) (hw 10) (oAp_0 @hw) d8_129 rfl rfl (P3 F3) ?_
 refine oPk1 ?_
 refine Ya 133 K d8_132 <|Ya 134 K d8_133 <|Yc 3 0 137 K (hw 19) d8_134 <|Ya 138 K d8_137 <|Yc 3 13 141 K (hw 63) d8_138 <|Ya 142 K d8_141 <|Ye 143 K d8_142 ?_
 refine Yk [.ref b14,.int 2,.ref b1,.int 1] [.ref b3] 1 3 12 146 K (hw 84) (hw 85) (hw 86) (hw 87) (own_aw_1_2_1 @hw (by omega) hch hne00 hne10) (lenOf pd_14 rfl) d8_143 ?_
 rintro _ _ ⟨z0,z1,z2,rfl,rfl,hz1,hz2⟩
 refine Yl 3 13 .int 149 K (hw 63) (Or.inl (hw 64)) (hw 10) (oAp_0 @hw) d8_146 rfl rfl (P3 F13) <|Ya 150 K d8_149 <|Yc 3 11 153 K (hw 59) d8_150 ?_
 refine Hl 156 K d8_153 <|Yd 2 157 K d8_156 <|Ya 158 K d8_157 <|Yf 1 1 159 K d8_158 ?_
 refine Gq 2 160 K d8_159 <|Ya 161 K d8_160 <|Yc 3 11 164 K (hw 59) d8_161 <|Yf 0 2 165 K d8_164 ?_
 refine Hn 178 168 K d8_165 <|Ya 169 K d8_168 <|Ya 170 K d8_169 ?_
 refine Yl 3 11 (.array .int) 173 K (hw 59) (Or.inl (hw 60)) (hw 10) (oAp_0 @hw) d8_170 rfl rfl (P3 F11) <|Ya 174 K d8_173 <|Yd 0 175 K d8_174 ?_
 refine Yl 3 15 .int 178 K (hw 91) (Or.inl (hw 92)) (hw 10) (oAp_0 @hw) d8_175 rfl rfl (P3 F15) ?_
 exact Ga K d8_178 ⟨rfl,_,_,_,_,_,_,rfl,hz1,hz2⟩
theorem own_add2_0_2 (hw : oHw a0 Z) {D1 D2 D5 D9 D10 D11 D12 D13 : oDsc} {f_mc f_cn f_dl f_wi f_cc f_rc f_hd f_ea : Value} {x0 x1 : Int32} :
  oCtr l Z h0 [] nM29 prog_7_method_3_code 5 none (oR 2 3 24 90) #[.ref b3,.int 0,.ref b0] [(b0,.inl (.int,[.int x0,.int x1])),(b1,D1),(b2,D2),(b3,oP b10 b13 b11 b12 b4 b5 b6 b7 b8 b9 (.int 0) .null f_mc f_cn f_dl f_wi f_cc f_rc f_hd f_ea),(b4,.inl (.boolean,[.int 1,.int 1,.int 0])),(b5,D5),(b6,.inl (.int,[.int 2147483647,.int 2147483647,.int 2147483647])),(b7,.inl (.int,[.int 0,.int 1,.int 0])),(b8,.inl (.array .int,[.null,.null,.null])),(b9,D9),(b10,D10),(b11,D11),(b12,D12),(b13,D13)] (oVoid fun d=>d=[(b0,.inl (.int,[.int x0,.int x1])),(b1,D1),(b2,D2),(b3,oP b10 b13 b11 b12 b4 b5 b6 b7 b8 b9 (.int 1) (.ref b0) f_mc f_cn f_dl (.int 0) f_cc f_rc f_hd f_ea),(b4,.inl (.boolean,[.int 1,.int 1,.int 0])),(b5,D5),(b6,.inl (.int,[.int 0,.int 2147483647,.int 2147483647])),(b7,.inl (.int,[.int 0,.int 1,.int 0])),(b8,.inl (.array .int,[.ref b0,.null,.null])),(b9,D9),(b10,D10),(b11,D11),(b12,D12),(b13,D13)]):=by
 refine oCo #[.val (.ref b3),.val (.int 0),.val (.ref b0),.unset,.unset] ?_
 intro p e s m below meth c K
 refine Ya 1 K d8_0 <|Yc 3 6 4 K (hw 32) d8_1 <|Ye 5 K d8_4 <|Ya 6 K d8_5 <|Yc 3 10 9 K (hw 57) d8_6 ?_
 refine Yr 6 0 10 K d8_9 rfl (S6 T0) <|Ya 11 K d8_10 <|Yc 3 7 14 K (hw 39) d8_11 <|Ya 15 K d8_14 <|Yc 3 10 18 K (hw 57) d8_15 <|Ye 19 K d8_18 ?_
 refine Yr 7 0 20 K d8_19 rfl (S7 T0) <|Ya 21 K d8_20 <|Yc 3 8 24 K (hw 43) d8_21 <|Ya 25 K d8_24 <|Yc 3 10 28 K (hw 57) d8_25 <|Ya 29 K d8_28 ?_
 refine Go 8 0 0 30 K d8_29 rfl (S8 T0) <|Ya 31 K d8_30 ?_
 refine Yv 32 K d8_31 <|Yc 3 10 35 K (hw 57) d8_32 <|Yd 1 36 K d8_35 ?_
 refine Ym 1 37 K d8_36 ?_
 refine Yl 3 10 .int 40 K (hw 57) (Or.inl (hw 58)) (hw 10) (oAp_0 @hw) d8_37 rfl rfl (P3 F10) <|Ya 41 K d8_40 <|Yc 3 4 44 K (hw 28) d8_41 <|Ye 45 K d8_44 <|Gn 4 0 46 K d8_45 ?_
 refine Hi 149 49 K d8_46 <|Ya 150 K d8_149 <|Yc 3 11 153 K (hw 59) d8_150 ?_
 refine Gw 168 K d8_153 <|Ya 169 K d8_168 <|Ya 170 K d8_169 ?_
 refine Yl 3 11 (.array .int) 173 K (hw 59) (Or.inl (hw 60)) (hw 10) (oAp_0 @hw) d8_170 rfl rfl (P3 F11) <|Ya 174 K d8_173 <|Yd 0 175 K d8_174 ?_
 refine Yl 3 15 .int 178 K (hw 91) (Or.inl (hw 92)) (hw 10) (oAp_0 @hw) d8_175 rfl rfl (P3 F15) ?_
 exact Ga K d8_178 ⟨rfl,rfl⟩
theorem own_add3_2_211 (hw : oHw a0 Z) {D0 D1 D9 D11 D12 D13 : oDsc} {f_dl f_wi f_cc f_rc f_hd f_ea : Value} {g0 g1 g2 t0 : Int64} {u0 : Int32} (hu0 : 1≤u0.toInt∧u0.toInt≤100000) (hch : oCh [g0,g1,g2]) (hne00 : g0.toInt ≠ u0.toInt * 4294967296 + 2) (hne10 : g1.toInt ≠ u0.toInt * 4294967296 + 2) (hne20 : g2.toInt ≠ u0.toInt * 4294967296 + 2) :
  oCtr l Z h0 [] nM29 prog_7_method_3_code 5 none (oR 2 3 24 90) #[.ref b3,.int 2,.ref b2] [(b0,D0),(b1,D1),(b2,.inl (.int,[.int u0])),(b3,oP b10 b13 b11 b12 b4 b5 b6 b7 b8 b9 (.int 0) .null (.int 2) (.int 3) f_dl f_wi f_cc f_rc f_hd f_ea),(b4,.inl (.boolean,[.int 1,.int 1,.int 0])),(b5,.inl (.int,[.int 0,.int 1,.int 0])),(b6,.inl (.int,[.int 2147483647,.int 2147483647,.int 2147483647])),(b7,.inl (.int,[.int 0,.int 1,.int 0])),(b8,.inl (.array .int,[.null,.null,.null])),(b9,D9),(b10,.inl (.long,[.long g0,.long g1,.long g2,.long t0])),(b11,D11),(b12,D12),(b13,D13)] (oVoid fun d=>∃ (z0 z1 z2 z3 : Int64),d=[(b0,D0),(b1,D1),(b2,.inl (.int,[.int u0])),(b3,oP b10 b13 b11 b12 b4 b5 b6 b7 b8 b9 (.int 1) (.ref b2) (.int 3) (.int 4) f_dl (.int 0) f_cc f_rc f_hd f_ea),(b4,.inl (.boolean,[.int 1,.int 1,.int 1])),(b5,.inl (.int,[.int 0,.int 1,.int 2])),(b6,.inl (.int,[.int 2147483647,.int 2147483647,.int 0])),(b7,.inl (.int,[.int 2,.int 1,.int 0])),(b8,.inl (.array .int,[.ref b2,.null,.null])),(b9,D9),(b10,.inl (.long,[.long z0,.long z1,.long z2,.long z3])),(b11,D11),(b12,D12),(b13,D13)]∧oCh [z0,z1,z2,z3]∧∀ v : Int,(v=z0.toInt∨v=z1.toInt∨v=z2.toInt∨v=z3.toInt) ↔ ((v=g0.toInt∨v=g1.toInt∨v=g2.toInt)∨(v=u0.toInt * 4294967296 + 2))):=by
 refine oCo #[.val (.ref b3),.val (.int 2),.val (.ref b2),.unset,.unset] ?_
 intro p e s m below meth c K
 refine Ya 1 K d8_0 <|Yc 3 6 4 K (hw 32) d8_1 <|Ye 5 K d8_4 <|Ya 6 K d8_5 <|Yc 3 10 9 K (hw 57) d8_6 ?_
 refine Yr 6 2 10 K d8_9 rfl (S6 T2) <|Ya 11 K d8_10 <|Yc 3 7 14 K (hw 39) d8_11 <|Ya 15 K d8_14 <|Yc 3 10 18 K (hw 57) d8_15 <|Ye 19 K d8_18 ?_
 refine Yr 7 0 20 K d8_19 rfl (S7 T0) <|Ya 21 K d8_20 <|Yc 3 8 24 K (hw 43) d8_21 <|Ya 25 K d8_24 <|Yc 3 10 28 K (hw 57) d8_25 <|Ya 29 K d8_28 ?_
 refine Go 8 2 0 30 K d8_29 rfl (S8 T0) <|Ya 31 K d8_30 ?_
 refine Yv 32 K d8_31 <|Yc 3 10 35 K (hw 57) d8_32 <|Yd 1 36 K d8_35 ?_
 refine Ym 1 37 K d8_36 ?_
 refine Yl 3 10 .int 40 K (hw 57) (Or.inl (hw 58)) (hw 10) (oAp_0 @hw) d8_37 rfl rfl (P3 F10) <|Ya 41 K d8_40 <|Yc 3 4 44 K (hw 28) d8_41 <|Ye 45 K d8_44 <|Gn 4 2 46 K d8_45 ?_
 refine Gc 149 49 K d8_46 <|Ya 50 K d8_49 <|Yc 3 4 53 K (hw 28) d8_50 <|Ye 54 K d8_53 <|Yd 1 55 K d8_54 ?_
 refine Gy 4 2 (.int (1 : Int32)) 56 K d8_55 rfl (S4 T2) <|Ya 57 K d8_56 <|Yc 3 5 60 K (hw 30) d8_57 <|Ya 61 K d8_60 ?_
 refine Yv 62 K d8_61 <|Yc 3 12 65 K (hw 61) d8_62 ?_
 refine Gg 66 K d8_65 <|Yd 1 67 K d8_66 ?_
 refine Ym 3 68 K d8_67 ?_
 refine Yl 3 12 .int 71 K (hw 61) (Or.inl (hw 62)) (hw 10) (oAp_0 @hw) d8_68 rfl rfl (P3 F12) <|Ye 72 K d8_71 ?_
 refine Yr 5 2 73 K d8_72 rfl (S5 T2) <|Ya 74 K d8_73 <|Yc 3 13 77 K (hw 63) d8_74 <|Ya 78 K d8_77 <|Yf 2 1 79 K d8_78 ?_
 refine Ym 4 80 K d8_79 ?_
 refine Yz 81 K d8_80 U3 <|Ya 82 K d8_81 <|Yc 3 0 85 K (hw 19) d8_82 <|Yf 10 4 86 K d8_85 <|Ye 87 K d8_86 ?_
 refine Y8 132 90 K d8_87 <|Ya 133 K d8_132 <|Ya 134 K d8_133 <|Yc 3 0 137 K (hw 19) d8_134 <|Ya 138 K d8_137 <|Yc 3 13 141 K (hw 63) d8_138 <|Ya 142 K d8_141 <|Ye 143 K d8_142 ?_
 refine Yk [.ref b10,.int 3,.ref b2,.int 2] [.ref b3] 1 0 0 146 K (hw 84) (hw 85) (hw 86) (hw 87) (own_aw_2_3_1 @hw (by omega) hch hne00 hne10 hne20) (lenOf pd_14 rfl) d8_143 ?_
 rintro _ _ ⟨z0,z1,z2,z3,rfl,rfl,hz1,hz2⟩
 refine Yl 3 13 .int 149 K (hw 63) (Or.inl (hw 64)) (hw 10) (oAp_0 @hw) d8_146 rfl rfl (P3 F13) <|Ya 150 K d8_149 <|Yc 3 11 153 K (hw 59) d8_150 ?_
 refine Gw 168 K d8_153 <|Ya 169 K d8_168 <|Ya 170 K d8_169 ?_
 refine Yl 3 11 (.array .int) 173 K (hw 59) (Or.inl (hw 60)) (hw 10) (oAp_0 @hw) d8_170 rfl rfl (P3 F11) <|Ya 174 K d8_173 <|Yd 0 175 K d8_174 ?_
 refine Yl 3 15 .int 178 K (hw 91) (Or.inl (hw 92)) (hw 10) (oAp_0 @hw) d8_175 rfl rfl (P3 F15) ?_
 exact Ga K d8_178 ⟨rfl,_,_,_,_,rfl,hz1,hz2⟩
theorem own_copy_4_8 (hw : oHw a0 Z) {D0 D1 D2 D3 D4 D5 D6 D7 D8 D9 D11 D12 D13 : oDsc} {g0 g1 g2 g3 : Int64} :
  oCtr l Z h0 [] nM27 jdk_65_method_124_code 3 (some (.array .long)) (oR 1 1 8 48) #[.ref b10,.int 8] [(b0,D0),(b1,D1),(b2,D2),(b3,D3),(b4,D4),(b5,D5),(b6,D6),(b7,D7),(b8,D8),(b9,D9),(b10,.inl (.long,[.long g0,.long g1,.long g2,.long g3])),(b11,D11),(b12,D12),(b13,D13)] (oVal fun w d=>∃ b14 : Addr,w=.ref b14∧d=[(b0,D0),(b1,D1),(b2,D2),(b3,D3),(b4,D4),(b5,D5),(b6,D6),(b7,D7),(b8,D8),(b9,D9),(b10,.inl (.long,[.long g0,.long g1,.long g2,.long g3])),(b11,D11),(b12,D12),(b13,D13),(b14,.inl (.long,[.long g0,.long g1,.long g2,.long g3,.long 0,.long 0,.long 0,.long 0]))]):=by
 refine oCo #[.val (.ref b10),.val (.int 8),.unset] ?_
 intro p e s m below meth c K
 refine Ye 1 K d9_0 <|Ya 2 K d9_1 <|Yf 10 4 3 K d9_2 ?_
 refine Gj 14 6 K d9_3 <|Ye 15 K d9_14 ?_
 refine Y3 8 1 8 17 K (hw 18) d9_15 (N14 (.inl (.long,[.long 0,.long 0,.long 0,.long 0,.long 0,.long 0,.long 0,.long 0]))) ?_
 intro a15 ha15
 refine Gl 18 K d9_17 U2 <|Ya 19 K d9_18 <|Yd 0 20 K d9_19 <|Ya 21 K d9_20 <|Yd 0 22 K d9_21 <|Ya 23 K d9_22 <|Yf 10 4 24 K d9_23 <|Ye 25 K d9_24 ?_
 refine Yk [.int 4,.int 8] [.int 0,.ref a15,.int 0,.ref b10] 4 1 8 28 K (hw 77) (hw 78) (hw 7) (hw 79) (own_min @hw) (lenOf pd_9 rfl) d9_25 ?_
 rintro _ _ ⟨mz,rfl,hmz,rfl⟩
 obtain rfl : mz=(4 : Int32):=oEq32.mpr (hmz.trans (by decide))
 refine oW.copyJ (W:=0) (i1:=10) (i2:=14) (xs:=[g0,g1,g2,g3]) (us:=[0,0,0,0,0,0,0,0]) (ds':=[(b0,D0),(b1,D1),(b2,D2),(b3,D3),(b4,D4),(b5,D5),(b6,D6),(b7,D7),(b8,D8),(b9,D9),(b10,.inl (.long,[.long g0,.long g1,.long g2,.long g3])),(b11,D11),(b12,D12),(b13,D13),(a15,.inl (.long,[.long g0,.long g1,.long g2,.long g3,.long 0,.long 0,.long 0,.long 0]))]) (pc':=31) K (hw 80) (hw 83) (hw 81) (hw 82) d9_28 rfl rfl rfl rfl rfl (Nat.le_of_ble_eq_true rfl) (by decide) rfl rfl (by decide) (Nat.le_of_eq rfl) (by decide) rfl ?_
 refine Ya 32 K d9_31 ?_
 exact G0 K d9_32 ⟨_,rfl,_,rfl,rfl⟩
theorem own_add3_2_212 (hw : oHw a0 Z) {D0 D1 D9 D11 D12 D13 : oDsc} {f_dl f_wi f_cc f_rc f_hd f_ea : Value} {g0 g1 g2 t0 : Int64} {u0 u1 : Int32} (hu0 : 1≤u0.toInt∧u0.toInt≤100000) (hu1 : 1≤u1.toInt∧u1.toInt≤100000) (hu0u1 : u0.toInt < u1.toInt) (hch : oCh [g0,g1,g2]) (hne00 : g0.toInt ≠ u0.toInt * 4294967296 + 2) (hne01 : g0.toInt ≠ u1.toInt * 4294967296 + 2) (hne10 : g1.toInt ≠ u0.toInt * 4294967296 + 2) (hne11 : g1.toInt ≠ u1.toInt * 4294967296 + 2) (hne20 : g2.toInt ≠ u0.toInt * 4294967296 + 2) (hne21 : g2.toInt ≠ u1.toInt * 4294967296 + 2) :
  oCtr l Z h0 [] nM29 prog_7_method_3_code 5 none (oR 2 3 24 90) #[.ref b3,.int 2,.ref b2] [(b0,D0),(b1,D1),(b2,.inl (.int,[.int u0,.int u1])),(b3,oP b10 b13 b11 b12 b4 b5 b6 b7 b8 b9 (.int 0) .null (.int 2) (.int 3) f_dl f_wi f_cc f_rc f_hd f_ea),(b4,.inl (.boolean,[.int 1,.int 1,.int 0])),(b5,.inl (.int,[.int 0,.int 1,.int 0])),(b6,.inl (.int,[.int 2147483647,.int 2147483647,.int 2147483647])),(b7,.inl (.int,[.int 0,.int 1,.int 0])),(b8,.inl (.array .int,[.null,.null,.null])),(b9,D9),(b10,.inl (.long,[.long g0,.long g1,.long g2,.long t0])),(b11,D11),(b12,D12),(b13,D13)] (oVoid fun d=>∃ (b10' b11' b12' : Addr) (z0 z1 z2 z3 z4 : Int64),d=[(b0,D0),(b1,D1),(b2,.inl (.int,[.int u0,.int u1])),(b3,oP b10' b13 b11' b12' b4 b5 b6 b7 b8 b9 (.int 1) (.ref b2) (.int 3) (.int 5) f_dl (.int 0) f_cc f_rc f_hd f_ea),(b4,.inl (.boolean,[.int 1,.int 1,.int 1])),(b5,.inl (.int,[.int 0,.int 1,.int 2])),(b6,.inl (.int,[.int 2147483647,.int 2147483647,.int 0])),(b7,.inl (.int,[.int 2,.int 1,.int 0])),(b8,.inl (.array .int,[.ref b2,.null,.null])),(b9,D9),(b10',.inl (.long,[.long z0,.long z1,.long z2,.long z3,.long z4,.long 0,.long 0,.long 0])),(b11',.inl (.long,[.long 0,.long 0,.long 0,.long 0,.long 0,.long 0,.long 0,.long 0])),(b12',.inl (.int,[.int 0,.int 0,.int 0,.int 0,.int 0,.int 0,.int 0,.int 0])),(b13,D13)]∧oCh [z0,z1,z2,z3,z4]∧∀ v : Int,(v=z0.toInt∨v=z1.toInt∨v=z2.toInt∨v=z3.toInt∨v=z4.toInt) ↔ ((v=g0.toInt∨v=g1.toInt∨v=g2.toInt)∨(v=u0.toInt * 4294967296 + 2∨v=u1.toInt * 4294967296 + 2))):=by
 refine oCo #[.val (.ref b3),.val (.int 2),.val (.ref b2),.unset,.unset] ?_
 intro p e s m below meth c K
 refine Ya 1 K d8_0 <|Yc 3 6 4 K (hw 32) d8_1 <|Ye 5 K d8_4 <|Ya 6 K d8_5 <|Yc 3 10 9 K (hw 57) d8_6 ?_
 refine Yr 6 2 10 K d8_9 rfl (S6 T2) <|Ya 11 K d8_10 <|Yc 3 7 14 K (hw 39) d8_11 <|Ya 15 K d8_14 <|Yc 3 10 18 K (hw 57) d8_15 <|Ye 19 K d8_18 ?_
 refine Yr 7 0 20 K d8_19 rfl (S7 T0) <|Ya 21 K d8_20 <|Yc 3 8 24 K (hw 43) d8_21 <|Ya 25 K d8_24 <|Yc 3 10 28 K (hw 57) d8_25 <|Ya 29 K d8_28 ?_
 refine Go 8 2 0 30 K d8_29 rfl (S8 T0) <|Ya 31 K d8_30 ?_
 refine Yv 32 K d8_31 <|Yc 3 10 35 K (hw 57) d8_32 <|Yd 1 36 K d8_35 ?_
 refine Ym 1 37 K d8_36 ?_
 refine Yl 3 10 .int 40 K (hw 57) (Or.inl (hw 58)) (hw 10) (oAp_0 @hw) d8_37 rfl rfl (P3 F10) <|Ya 41 K d8_40 <|Yc 3 4 44 K (hw 28) d8_41 <|Ye 45 K d8_44 <|Gn 4 2 46 K d8_45 ?_
 refine Gc 149 49 K d8_46 <|Ya 50 K d8_49 <|Yc 3 4 53 K (hw 28) d8_50 <|Ye 54 K d8_53 <|Yd 1 55 K d8_54 ?_
 refine Gy 4 2 (.int (1 : Int32)) 56 K d8_55 rfl (S4 T2) <|Ya 57 K d8_56 <|Yc 3 5 60 K (hw 30) d8_57 <|Ya 61 K d8_60 ?_
 refine Yv 62 K d8_61 <|Yc 3 12 65 K (hw 61) d8_62 ?_
 refine Gg 66 K d8_65 <|Yd 1 67 K d8_66 ?_
 refine Ym 3 68 K d8_67 ?_
 refine Yl 3 12 .int 71 K (hw 61) (Or.inl (hw 62)) (hw 10) (oAp_0 @hw) d8_68 rfl rfl (P3 F12) <|Ye 72 K d8_71 ?_
 refine Yr 5 2 73 K d8_72 rfl (S5 T2) <|Ya 74 K d8_73 <|Yc 3 13 77 K (hw 63) d8_74 <|Ya 78 K d8_77 <|Yf 2 2 79 K d8_78 ?_
 refine Ym 5 80 K d8_79 ?_
 refine Yz 81 K d8_80 U3 <|Ya 82 K d8_81 <|Yc 3 0 85 K (hw 19) d8_82 <|Yf 10 4 86 K d8_85 <|Ye 87 K d8_86 ?_
 refine Yy 132 90 K d8_87 <|Ye 91 K d8_90 <|Yd 2 92 K d8_91 <|Ya 93 K d8_92 <|Yc 3 0 96 K (hw 19) d8_93 <|Yf 10 4 97 K d8_96 ?_
 refine Gq 8 98 K d8_97 ?_
 refine Yk [.int 5,.int 8] [] 0 0 0 101 K (hw 73) (hw 6) (hw 7) (hw 8) (own_max @hw) (lenOf pd_9 rfl) d8_98 ?_
 rintro _ _ ⟨mz,rfl,hmz,rfl⟩
 obtain rfl : mz=(8 : Int32):=oEq32.mpr (hmz.trans (by decide))
 refine Yj 103 K d8_101 U4 <|Ya 104 K d8_103 <|Ya 105 K d8_104 <|Yc 3 0 108 K (hw 19) d8_105 <|Yb 110 K d8_108 ?_
 refine Yk [.ref b10,.int 8] [.ref b3] 1 1 8 113 K (hw 74) (hw 75) (hw 37) (hw 76) (own_copy_4_8 @hw) (lenOf pd_13 rfl) d8_110 ?_
 rintro _ _ ⟨b14,rfl,rfl⟩
 refine Yl 3 0 (.array .long) 116 K (hw 19) (Or.inl (hw 20)) (hw 10) (oAp_0 @hw) d8_113 rfl rfl (P3 F0) <|Ya 117 K d8_116 <|Yb 119 K d8_117 ?_
 refine Y3 8 2 16 121 K (hw 18) d8_119 (N15 (.inl (.long,[.long 0,.long 0,.long 0,.long 0,.long 0,.long 0,.long 0,.long 0]))) ?_
 intro a119 ha119
 refine Yl 3 2 (.array .long) 124 K (hw 23) (Or.inl (hw 24)) (hw 10) (oAp_0 @hw) d8_121 rfl rfl (P3 F2) <|Ya 125 K d8_124 <|Yb 127 K d8_125 ?_
 refine Y3 8 3 24 129 K (hw 4) d8_127 (N16 (.inl (.int,[.int 0,.int 0,.int 0,.int 0,.int 0,.int 0,.int 0,.int 0]))) ?_
 intro a127 ha127
 refine Yl 3 3 (.array .int) 132 K (hw 25) (Or.inl (hw 26)) (hw 10) (oAp_0 @hw) d8_129 rfl rfl (P3 F3) ?_
 refine oPk1 ?_
 refine Ya 133 K d8_132 <|Ya 134 K d8_133 <|Yc 3 0 137 K (hw 19) d8_134 <|Ya 138 K d8_137 <|Yc 3 13 141 K (hw 63) d8_138 <|Ya 142 K d8_141 <|Ye 143 K d8_142 ?_
 refine Yk [.ref b14,.int 3,.ref b2,.int 2] [.ref b3] 1 3 24 146 K (hw 84) (hw 85) (hw 86) (hw 87) (own_aw_2_3_2 @hw (by omega) (by omega) (by omega) hch hne00 hne01 hne10 hne11 hne20 hne21) (lenOf pd_14 rfl) d8_143 ?_
 rintro _ _ ⟨z0,z1,z2,z3,z4,rfl,rfl,hz1,hz2⟩
 refine Yl 3 13 .int 149 K (hw 63) (Or.inl (hw 64)) (hw 10) (oAp_0 @hw) d8_146 rfl rfl (P3 F13) <|Ya 150 K d8_149 <|Yc 3 11 153 K (hw 59) d8_150 ?_
 refine Gw 168 K d8_153 <|Ya 169 K d8_168 <|Ya 170 K d8_169 ?_
 refine Yl 3 11 (.array .int) 173 K (hw 59) (Or.inl (hw 60)) (hw 10) (oAp_0 @hw) d8_170 rfl rfl (P3 F11) <|Ya 174 K d8_173 <|Yd 0 175 K d8_174 ?_
 refine Yl 3 15 .int 178 K (hw 91) (Or.inl (hw 92)) (hw 10) (oAp_0 @hw) d8_175 rfl rfl (P3 F15) ?_
 exact Ga K d8_178 ⟨rfl,_,_,_,_,_,_,_,_,rfl,hz1,hz2⟩
theorem own_widen2_21 (hw : oHw a0 Z) {D2 D4 D5 D6 D7 D9 D10 D11 D12 : oDsc} {f_mc f_cn f_dl f_cc f_rc f_hd f_ea : Value} {q2 : Value} {x0 x1 y0 : Int32} (hx0 : 1≤x0.toInt∧x0.toInt≤100000) (hx1 : 1≤x1.toInt∧x1.toInt≤100000) (hy0 : 1≤y0.toInt∧y0.toInt≤100000) (hx0x1 : x0.toInt < x1.toInt) :
  oCtr l Z h0 [] nM31 prog_7_method_7_code 3 none (oR 3 1 2 60) #[.ref b3] [(b0,.inl (.int,[.int x0,.int x1])),(b1,.inl (.int,[.int y0])),(b2,D2),(b3,oP b10 b13 b11 b12 b4 b5 b6 b7 b8 b9 (.int 2) (.ref b1) f_mc f_cn f_dl (.int 0) f_cc f_rc f_hd f_ea),(b4,D4),(b5,D5),(b6,D6),(b7,D7),(b8,.inl (.array .int,[.ref b0,.ref b1,q2])),(b9,D9),(b10,D10),(b11,D11),(b12,D12),(b13,.inl (.int,[]))] (oVoid fun d=>∃ (b13' : Addr) (e0 : Int32),d=[(b0,.inl (.int,[.int x0,.int x1])),(b1,.inl (.int,[.int y0])),(b2,D2),(b3,oP b10 b13' b11 b12 b4 b5 b6 b7 b8 b9 (.int 2) (.ref b1) f_mc f_cn f_dl (.int 2) f_cc f_rc f_hd f_ea),(b4,D4),(b5,D5),(b6,D6),(b7,D7),(b8,.inl (.array .int,[.ref b0,.ref b1,q2])),(b9,D9),(b10,D10),(b11,D11),(b12,D12),(b13',.inl (.int,[.int e0]))]):=by
 refine oCo #[.val (.ref b3),.unset,.unset] ?_
 intro p e s m below meth c K
 refine Ya 1 K d14_0 <|Yc 3 15 4 K (hw 91) d14_1 ?_
 refine Gc 45 7 K d14_4 <|Ya 8 K d14_7 <|Yc 3 1 11 K (hw 21) d14_8 <|Yf 13 0 12 K d14_11 <|Ya 13 K d14_12 <|Yc 3 11 16 K (hw 59) d14_13 <|Yf 1 1 17 K d14_16 ?_
 refine Yy 31 20 K d14_17 <|Ya 21 K d14_20 <|Ya 22 K d14_21 <|Yc 3 11 25 K (hw 59) d14_22 <|Yf 1 1 26 K d14_25 ?_
 refine Y3 1 1 1 28 K (hw 4) d14_26 (N14 (.inl (.int,[.int 0]))) ?_
 intro a26 ha26
 refine Yl 3 1 (.array .int) 31 K (hw 21) (Or.inl (hw 22)) (hw 10) (oAp_0 @hw) d14_28 rfl rfl (P3 F1) ?_
 refine oPk2 ?_
 refine Ya 32 K d14_31 <|Yc 3 1 35 K (hw 21) d14_32 <|Yd 0 36 K d14_35 <|Ya 37 K d14_36 <|Yc 3 11 40 K (hw 59) d14_37 <|Yf 1 1 41 K d14_40 <|Yd 0 42 K d14_41 ?_
 refine Gu [.ref a26,.int 0,.int 1,.int 0] [] 0 1 1 45 K (hw 102) (hw 103) (hw 37) (hw 104) (own_fillF_1_1 @hw) (lenOf pd_16 rfl) d14_42 ?_
 rintro _ rfl
 refine Ya 46 K d14_45 <|Yc 3 15 49 K (hw 91) d14_46 <|Ya 50 K d14_49 <|Yc 3 10 53 K (hw 57) d14_50 ?_
 refine Yy 121 56 K d14_53 <|Ya 57 K d14_56 <|Yc 3 8 60 K (hw 43) d14_57 <|Ya 61 K d14_60 <|Yc 3 15 64 K (hw 91) d14_61 <|Gz 8 0 65 K d14_64 ?_
 refine Gl 66 K d14_65 U1 <|Yd 0 67 K d14_66 ?_
 refine Yz 68 K d14_67 U2 <|Ye 69 K d14_68 <|Ya 70 K d14_69 <|Yc 3 11 73 K (hw 59) d14_70 <|Yf 1 1 74 K d14_73 ?_
 refine Yy 108 77 K d14_74 <|Ya 78 K d14_77 <|Yc 3 1 81 K (hw 21) d14_78 <|Ye 82 K d14_81 <|Ya 83 K d14_82 <|Yc 3 1 86 K (hw 21) d14_83 <|Ye 87 K d14_86 <|Yn 13 0 88 K d14_87 <|Ya 89 K d14_88 <|Ya 90 K d14_89 <|Yc 3 11 93 K (hw 59) d14_90 <|Ye 94 K d14_93 ?_
 refine Yn 1 0 95 K d14_94 ?_
 refine Yk [.ref b0,.int y0] [.int 0,.int 0,.ref a26] 3 1 1 98 K (hw 108) (hw 109) (hw 11) (hw 110) (own_dist_2 @hw (ix:=0) rfl (by omega) (by omega) (by omega) (by omega)) (lenOf pd_8 rfl) d14_95 ?_
 rintro _ _ ⟨dz95,rfl,hdz95,rfl⟩
 refine Yk [.int 0,.int dz95] [.int 0,.ref a26] 2 1 1 101 K (hw 73) (hw 6) (hw 7) (hw 8) (own_max @hw) (lenOf pd_9 rfl) d14_98 ?_
 rintro _ _ ⟨mz98,rfl,hmz98,rfl⟩
 refine Yr 13 0 102 K d14_101 rfl (S13 T0) ?_
 refine Yg 1 105 K d14_102 U2 <|Yi 68 K d14_105 <|Ye 69 K d14_68 <|Ya 70 K d14_69 <|Yc 3 11 73 K (hw 59) d14_70 <|Yf 1 1 74 K d14_73 ?_
 refine Y8 108 77 K d14_74 <|Ya 109 K d14_108 ?_
 refine Yv 110 K d14_109 <|Yc 3 15 113 K (hw 91) d14_110 <|Yd 1 114 K d14_113 ?_
 refine Ym 1 115 K d14_114 ?_
 refine Yl 3 15 .int 118 K (hw 91) (Or.inl (hw 92)) (hw 10) (oAp_0 @hw) d14_115 rfl rfl (P3 F15) <|Yi 45 K d14_118 <|Ya 46 K d14_45 <|Yc 3 15 49 K (hw 91) d14_46 <|Ya 50 K d14_49 <|Yc 3 10 53 K (hw 57) d14_50 ?_
 refine Yy 121 56 K d14_53 <|Ya 57 K d14_56 <|Yc 3 8 60 K (hw 43) d14_57 <|Ya 61 K d14_60 <|Yc 3 15 64 K (hw 91) d14_61 <|Gz 8 1 65 K d14_64 ?_
 refine Gl 66 K d14_65 U1 <|Yd 0 67 K d14_66 ?_
 refine Yz 68 K d14_67 U2 <|Ye 69 K d14_68 <|Ya 70 K d14_69 <|Yc 3 11 73 K (hw 59) d14_70 <|Yf 1 1 74 K d14_73 ?_
 refine Yy 108 77 K d14_74 <|Ya 78 K d14_77 <|Yc 3 1 81 K (hw 21) d14_78 <|Ye 82 K d14_81 <|Ya 83 K d14_82 <|Yc 3 1 86 K (hw 21) d14_83 <|Ye 87 K d14_86 <|Yn 13 0 88 K d14_87 <|Ya 89 K d14_88 <|Ya 90 K d14_89 <|Yc 3 11 93 K (hw 59) d14_90 <|Ye 94 K d14_93 ?_
 refine Yn 1 0 95 K d14_94 ?_
 refine Yk [.ref b1,.int y0] [.int mz98,.int 0,.ref a26] 3 1 1 98 K (hw 108) (hw 109) (hw 11) (hw 110) (own_dist_1 @hw (ix:=1) rfl (by omega) (by omega)) (lenOf pd_8 rfl) d14_95 ?_
 rintro _ _ ⟨dz95_1,rfl,hdz95_1,rfl⟩
 refine Yk [.int mz98,.int dz95_1] [.int 0,.ref a26] 2 1 1 101 K (hw 73) (hw 6) (hw 7) (hw 8) (own_max @hw) (lenOf pd_9 rfl) d14_98 ?_
 rintro _ _ ⟨mz98_1,rfl,hmz98_1,rfl⟩
 refine Yr 13 0 102 K d14_101 rfl (S13 T0) ?_
 refine Yg 1 105 K d14_102 U2 <|Yi 68 K d14_105 <|Ye 69 K d14_68 <|Ya 70 K d14_69 <|Yc 3 11 73 K (hw 59) d14_70 <|Yf 1 1 74 K d14_73 ?_
 refine Y8 108 77 K d14_74 <|Ya 109 K d14_108 ?_
 refine Yv 110 K d14_109 <|Yc 3 15 113 K (hw 91) d14_110 <|Yd 1 114 K d14_113 ?_
 refine Ym 2 115 K d14_114 ?_
 refine Yl 3 15 .int 118 K (hw 91) (Or.inl (hw 92)) (hw 10) (oAp_0 @hw) d14_115 rfl rfl (P3 F15) <|Yi 45 K d14_118 <|Ya 46 K d14_45 <|Yc 3 15 49 K (hw 91) d14_46 <|Ya 50 K d14_49 <|Yc 3 10 53 K (hw 57) d14_50 ?_
 refine Y8 121 56 K d14_53 ?_
 exact Ga K d14_121 ⟨rfl,_,_,rfl⟩
theorem own_find2_21 (hw : oHw a0 Z) {D2 D4 D5 D7 : oDsc} {f_mc f_cc : Value} {q2 : Value} {x0 x1 y0 dl : Int32} (hx0 : 1 ≤ x0.toInt ∧ x0.toInt ≤ 100000) (hx1 : 1 ≤ x1.toInt ∧ x1.toInt ≤ 100000) (hy0 : 1 ≤ y0.toInt ∧ y0.toInt ≤ 100000) (hx0x1 : x0.toInt < x1.toInt) {ocs : List Int64} {cnt : Nat} {cn : Int32} (hcn : cn.toInt = (cnt : Int)) (hO : oEnt ocs cnt 2) (hs : oSrt ocs cnt) (hol : ocs.length ≤ 1000) {wv : UInt64} {iw : Int} (hSt : Sta Z h0 "java/lang/StrictMath" "$assertionsDisabled" "Z" (.int 1)) (hwh : oWh wv) (hwv : FP.Core.DInt iw wv) (hiw : 1 ≤ iw) (hiw2 : iw ≤ 1000) {rds : List Int64} {cvs : List Value} (hdl : 1 ≤ dl.toInt ∧ dl.toInt ≤ 100000) (hrl : cnt ≤ rds.length ∧ rds.length ≤ 1000) (hcv : 1 ≤ cvs.length ∧ cvs.length ≤ 1000) :
  oCtr l Z h0 [] nM32 prog_7_method_5_code 10 (some .int) (oR 6 1 2 124) #[.ref b3,.double wv] [(b0,.inl (.int,[.int x0,.int x1])),(b1,.inl (.int,[.int y0])),(b2,D2),(b3,oP b10 b13 b11 b12 b4 b5 b6 b7 b8 b9 (.int 2) (.ref b1) f_mc (.int cn) (.int dl) (.int 0) f_cc (.int 0) (.int 0) (.int 0)),(b4,D4),(b5,D5),(b6,.inl (.int,[.int 0,.int 1,.int 2147483647])),(b7,D7),(b8,.inl (.array .int,[.ref b0,.ref b1,q2])),(b9,.inl (.int,[.int 0,.int 0,.int 0])),(b10,.inl (.long,(ocs.map Value.long))),(b11,.inl (.long,(rds.map Value.long))),(b12,.inl (.int,cvs)),(b13,.inl (.int,[]))] (oVal fun w d=>∃ (b13' : Addr) (e0 : Int32) (rds' : List Int64) (cvs' : List Value) (cc' : Int32),w=.int cc'∧d=[(b0,.inl (.int,[.int x0,.int x1])),(b1,.inl (.int,[.int y0])),(b2,D2),(b3,oP b10 b13' b11 b12 b4 b5 b6 b7 b8 b9 (.int 2) (.ref b1) f_mc (.int cn) (.int dl) (.int 2) (.int cc') (.int 0) (.int 0) (.int 0)),(b4,D4),(b5,D5),(b6,.inl (.int,[.int 0,.int 1,.int 2147483647])),(b7,D7),(b8,.inl (.array .int,[.ref b0,.ref b1,q2])),(b9,.inl (.int,[.int 0,.int 0,.int 0])),(b10,.inl (.long,(ocs.map Value.long))),(b11,.inl (.long,(rds'.map Value.long))),(b12,.inl (.int,cvs')),(b13',.inl (.int,[.int e0]))]∧rds'.length=rds.length∧cvs'.length=cvs.length):=by
 refine oCo #[.val (.ref b3),.val (.double wv),.second,.unset,.unset,.unset,.unset,.unset,.unset,.unset] ?_
 intro p e s m below meth c K
 refine Ya 1 K d13_0 ?_
 refine Ge b3 nM12 [] [] 0 1 2 4 K (hw 98) (hw 100) (hw 50) (hw 99) (hw 101) (hw 11) (own_widen2_21 @hw (by omega) (by omega) (by omega) (by omega)) (lenOf pd_4 rfl) d13_1 ?_
 rintro _ ⟨b13',e0,rfl⟩
 refine Y1 5 K d13_4 ?_
 refine oW.floorW (pc':=8) K @hw (hw 117) hSt hwh d13_5 rfl (by decide) (by decide) rfl ?_
 refine Ya 9 K d13_8 <|Yc 3 14 12 K (hw 65) d13_9 ?_
 obtain ⟨v12,ev12⟩:=oE (FP.i2d dl : UInt64)
 have dv12:=oI2D ev12
 refine Gh 13 K d13_12 ev12 ?_
 obtain ⟨md,emd⟩:=oE (Native.java_lang_Math.nans.pick64 false wv v12 : UInt64)
 have hmd : FP.Core.DInt (min iw dl.toInt) md:=by rw [emd]; exact oPick hwv dv12
 refine oW.minDW (pc':=16) K @hw (hw 140) (oNN hwv) (oNN dv12) emd d13_13 rfl (by decide) (by decide) (by decide) (by decide) rfl ?_
 obtain ⟨v16,ev16⟩:=oE (FP.d2i md : Int32)
 refine G3 17 K d13_16 ev16 ?_
 have tv16:=oD2I ev16 hmd (by omega)
 refine Yd 1 18 K d13_17 ?_
 obtain ⟨v18,ev18⟩:=oE (v16 - (1 : Int32) : Int32)
 refine Y9 19 K d13_18 ev18 ?_
 have tv18:=oIsub ev18 oOm
 try simp only [Int32.reduceToInt,Int64.reduceToInt] at tv18
 refine Yz 20 K d13_19 U3 <|Ya 21 K d13_20 <|Yd 0 22 K d13_21 ?_
 refine Yl 3 16 .int 25 K (hw 143) (Or.inl (hw 144)) (hw 10) (oAp_0 @hw) d13_22 rfl rfl (P3 F16) <|Yd 0 26 K d13_25 ?_
 refine Yj 28 K d13_26 U4 <|Yd 0 29 K d13_28 ?_
 refine Yj 31 K d13_29 U5 <|Yd 0 32 K d13_31 ?_
 refine Yj 34 K d13_32 U6 ?_
 refine oW.loop (F:=fun z : Int32 × Int32 × Int32 × Slot × Slot × Slot × Int32 × Int32 × Int32 × Int32 × Int32 × Int32 × Int32 × List Int64 × List Value=>∃ n' t : Nat,oRS z.2.2.2.2.2.2.2.2.2.2.2.2.2.1 n' z.2.2.2.2.2.2.2.1 z.2.2.2.2.2.2.2.2.2.1 z.2.2.2.2.2.2.2.2.2.2.1 z.2.2.2.2.2.2.2.2.2.2.2.1 z.2.2.2.2.2.2.2.2.2.2.2.2.1∧z.2.2.2.2.2.2.2.2.2.2.2.2.2.1.length=rds.length∧z.2.2.2.2.2.2.2.2.2.2.2.2.2.2.length=cvs.length∧n'≤t∧t≤cnt∧(∀ (i : Nat) (x : Int64),i < t→ocs[i]?=some x→x.toInt < (z.1.toInt + 1) * 4294967296)∧0≤z.1.toInt∧0≤z.2.2.1.toInt∧z.2.2.1.toInt≤1∧0≤z.2.2.2.2.2.2.1.toInt∧z.2.2.2.2.2.2.1.toInt≤z.2.2.1.toInt∧(z.2.2.1.toInt≤0→z.1.toInt≤y0.toInt + v18.toInt)∧oDead z.2.2.2.1∧oDead z.2.2.2.2.1∧oDead z.2.2.2.2.2.1) (mu:=fun z=>1 - z.2.2.1.toInt.toNat) (pcj:=34) (Lf:=fun z=>#[.val (.ref b3),.val (.double wv),.second,.val (.int v18),.val (.int z.1),.val (.int z.2.1),.val (.int z.2.2.1),z.2.2.2.1,z.2.2.2.2.1,z.2.2.2.2.2.1]) (Sf:=fun z=>[]) (dsf:=fun z=>[(b0,.inl (.int,[.int x0,.int x1])),(b1,.inl (.int,[.int y0])),(b2,D2),(b3,oP b10 b13' b11 b12 b4 b5 b6 b7 b8 b9 (.int 2) (.ref b1) f_mc (.int cn) (.int dl) (.int 2) (.int z.2.2.2.2.2.2.1) (.int z.2.2.2.2.2.2.2.1) (.int z.2.2.2.2.2.2.2.2.1) (.int z.2.2.2.2.2.2.2.2.2.1)),(b4,D4),(b5,D5),(b6,.inl (.int,[.int 0,.int 1,.int 2147483647])),(b7,D7),(b8,.inl (.array .int,[.ref b0,.ref b1,q2])),(b9,.inl (.int,[(.int z.2.2.2.2.2.2.2.2.2.2.1),(.int z.2.2.2.2.2.2.2.2.2.2.2.1),(.int z.2.2.2.2.2.2.2.2.2.2.2.2.1)])),(b10,.inl (.long,(ocs.map Value.long))),(b11,.inl (.long,(z.2.2.2.2.2.2.2.2.2.2.2.2.2.1.map Value.long))),(b12,.inl (.int,z.2.2.2.2.2.2.2.2.2.2.2.2.2.2)),(b13',.inl (.int,[.int e0]))]) ?_ ((0 : Int32),(0 : Int32),(0 : Int32),(.unset : Slot),(.unset : Slot),(.unset : Slot),(0 : Int32),(0 : Int32),(0 : Int32),(0 : Int32),(0 : Int32),(0 : Int32),(0 : Int32),rds,cvs) (by dsimp only; have:=oTs; exact ⟨0,0,oRS.z,rfl,rfl,Nat.le_refl _,Nat.zero_le _,fun i x h=>absurd h (Nat.not_lt_zero _),by decide,by decide,by omega,by decide,by decide,fun _=>by omega,Or.inl rfl,Or.inl rfl,Or.inl rfl⟩)
 rintro ⟨bq,la,ix,s1,s2,s3,ccL,rcL,hdL,eaL,k0L,k1L,k2L,rdsL,cvsL⟩ hF34 IH34
 dsimp only at hF34 IH34 ⊢
 obtain ⟨n',t,h1,h2,h3,ht1,ht2,h6,h7,h8,h9,h10,h11,ha0,f1,f2,f3⟩:=hF34
 refine Yb 36 K d13_34 <|Ya 37 K d13_36 <|Yc 3 11 40 K (hw 59) d13_37 <|Yf 1 1 41 K d13_40 ?_
 refine Gm 139 44 K d13_41 (fun c41=>?_) (fun c41=>?_)
 ·simp only [oLt32,oEq32,Int32.reduceToInt] at c41
  refine Ya 140 K d13_139 ?_
  refine Ge b3 nM12 [] [] 0 1 2 143 K (hw 145) (hw 147) (hw 50) (hw 146) (hw 148) (hw 11) (own_restart @hw (n:=n') h1.1 (by omega) h1.2.2.2.1 h1.2.2.2.2.1 h1.2.2.2.2.2.1 h1.2.2.2.2.2.2) (lenOf pd_4 rfl) d13_140 ?_
  rintro _ rfl
  refine Ya 144 K d13_143 <|Yc 3 16 147 K (hw 143) d13_144 ?_
  exact Yq K d13_147 ⟨_,rfl,_,_,_,_,_,rfl,rfl,h2,h3⟩
 simp only [oLt32,oEq32,Int32.reduceToInt] at c41
 have hix : ix=0:=by simp only [oEq32,Int32.reduceToInt]; omega
 rcases hix with hix
 subst hix
 simp only [Int32.reduceToInt] at h8 h9 h10 h11 ha0
 refine Ya 45 K d13_44 <|Yc 3 11 48 K (hw 59) d13_45 <|Yb 50 K d13_48 <|Yn 1 0 51 K d13_50 ?_
 refine oW.istore (Ls':=#[.val (.ref b3),.val (.double wv),.second,.val (.int v18),.val (.int bq),.val (.int la),.val (.int 0),.val (.int y0),s2,s3]) (pc':=53) K d13_51 (oStoreDead rfl f1 rfl) rfl ?_
 refine Ya 54 K d13_53 <|Yc 3 1 57 K (hw 21) d13_54 <|Yb 59 K d13_57 <|Yn 13 0 60 K d13_59 <|Yd 1 61 K d13_60 ?_
 obtain ⟨v61,ev61⟩:=oE (e0 + (1 : Int32) : Int32)
 refine Y0 62 K d13_61 ev61 ?_
 obtain ⟨v62,ev62⟩:=oE (FP.i2d v61 : UInt64)
 have dv62:=oI2D ev62
 refine Gh 63 K d13_62 ev62 <|Y1 64 K d13_63 ?_
 obtain ⟨v64,ev64⟩:=oE (cmpValue (FP.dcmp v62 wv) .l : Int32)
 refine Gi 65 K d13_64 ev64 ?_
 refine Hg 133 68 K d13_65 (fun c65=>?_) (fun c65=>?_)
 ·refine Yg 1 136 K d13_133 U6 <|Yi 34 K d13_136 ?_
  exact IH34 (bq,la,(1 : Int32),(.val (.int y0) : Slot),(s2 : Slot),(s3 : Slot),ccL,rcL,hdL,eaL,k0L,k1L,k2L,rdsL,cvsL) (by dsimp only; have:=oTs; exact ⟨n',t,h1,h2,h3,ht1,ht2,h6,by omega,by omega,by omega,by omega,by omega,fun _=>by omega,Or.inr ⟨_,rfl⟩,f2,f3⟩) (by dsimp only; have:=oTs; omega)
 refine Yb 70 K d13_68 <|Yb 72 K d13_70 ?_
 refine Hd 78 75 K d13_72 (fun c72=>?_) (fun c72=>?_)
 ·simp only [oLt32,oEq32,Int32.reduceToInt] at c72
  refine Yb 80 K d13_78 ?_
  obtain ⟨v80,ev80⟩:=oE (y0.toInt64 : Int64)
  refine Gd 81 K d13_80 ev80 ?_
  have tv80 : v80.toInt=_:=oI2L ev80
  refine Ye 82 K d13_81 ?_
  obtain ⟨v82,ev82⟩:=oE (v18.toInt64 : Int64)
  refine Gd 83 K d13_82 ev82 ?_
  have tv82 : v82.toInt=_:=oI2L ev82
  obtain ⟨v83,ev83⟩:=oE (v80 + v82 : Int64)
  refine Gv 84 K d13_83 ev83 ?_
  have tv83:=oLadd ev83 oOm
  try simp only [Int32.reduceToInt,Int64.reduceToInt] at tv83
  refine Gx 87 K (hw 156) d13_84 ?_
  refine Yk [.long v83,.long 2147483647] [] 0 1 2 90 K (hw 157) (hw 158) (hw 7) (hw 159) (own_minJ @hw) (lenOf pd_17 rfl) d13_87 ?_
  rintro _ _ ⟨mj87,rfl,tmj87,rfl⟩
  rw [show (2147483647 : Int64).toInt=2147483647 by decide] at tmj87
  obtain ⟨v90,ev90⟩:=oE (mj87.toInt32 : Int32)
  refine Gs 91 K d13_90 ev90 ?_
  have tv90:=oL2I ev90 (by omega)
  refine oW.istore (Ls':=#[.val (.ref b3),.val (.double wv),.second,.val (.int v18),.val (.int bq),.val (.int la),.val (.int 0),.val (.int y0),.val (.int v90),s3]) (pc':=93) K d13_91 (oStoreDead rfl f2 rfl) rfl ?_
  refine Ya 94 K d13_93 <|Yb 96 K d13_94 <|Yd 1 97 K d13_96 ?_
  obtain ⟨v97,ev97⟩:=oE (bq + (1 : Int32) : Int32)
  refine Y0 98 K d13_97 ev97 ?_
  have tv97:=oIadd ev97 oOm
  try simp only [Int32.reduceToInt,Int64.reduceToInt] at tv97
  refine Yb 100 K d13_98 <|Ye 101 K d13_100 ?_
  obtain ⟨v101,ev101⟩:=oE (y0 - v18 : Int32)
  refine Y9 102 K d13_101 ev101 ?_
  have tv101:=oIsub ev101 oOm
  try simp only [Int32.reduceToInt,Int64.reduceToInt] at tv101
  refine Yk [.int v97,.int v101] [.ref b3] 1 1 2 105 K (hw 73) (hw 6) (hw 7) (hw 8) (own_max @hw) (lenOf pd_9 rfl) d13_102 ?_
  rintro _ _ ⟨lo102,rfl,tlo102,rfl⟩
  try simp only [Int32.reduceToInt] at tlo102
  refine Yb 107 K d13_105 <|Y1 108 K d13_107 ?_
  refine Gk b3 nM12 [.int lo102,.int v90,.double wv] [] 0 1 2 111 K (hw 160) (hw 162) (hw 50) (hw 161) (hw 163) (hw 11) (own_rrG @hw hcn hO hs hol h1 ⟨by omega,by omega⟩ ⟨by omega,by omega,by omega⟩ (by omega) (by omega) (by omega) ⟨t,ht1,ht2,fun i x h q=>by have:=h6 i x h q; omega⟩) (lenOf pd_18 rfl) d13_108 ?_
  rintro _ _ ⟨rds',cvs',rc',hd',ea',cc',k0',k1',k2',z,n2,rfl,rfl,hl1,hl2,hrs',hcase⟩
  rcases hcase with ⟨hz,hce,t2,ht1',ht2',ht3'⟩|⟨hz1,hz2,hce,hn2⟩
  ·subst hz
   subst hce
   refine oW.istore (Ls':=#[.val (.ref b3),.val (.double wv),.second,.val (.int v18),.val (.int bq),.val (.int la),.val (.int 0),.val (.int y0),.val (.int v90),.val (.int 0)]) (pc':=113) K d13_111 (oStoreDead rfl f3 rfl) rfl ?_
   refine Yb 115 K d13_113 ?_
   refine Gc 125 118 K d13_115 <|Yb 120 K d13_118 ?_
   refine Yj 122 K d13_120 U4 <|Yi 133 K d13_122 ?_
   refine Yg 1 136 K d13_133 U6 <|Yi 34 K d13_136 ?_
   exact IH34 (v90,la,(1 : Int32),(.val (.int y0) : Slot),(.val (.int v90) : Slot),(.val (.int 0) : Slot),ccL,rc',hd',ea',k0',k1',k2',rds',cvs') (by dsimp only; have:=oTs; exact ⟨n2,t2,hrs',hl1.trans h2,hl2.trans h3,ht1',ht2',ht3',by omega,by omega,by omega,by omega,by omega,fun _=>by omega,Or.inr ⟨_,rfl⟩,Or.inr ⟨_,rfl⟩,Or.inr ⟨_,rfl⟩⟩) (by dsimp only; have:=oTs; omega)
  refine oW.istore (Ls':=#[.val (.ref b3),.val (.double wv),.second,.val (.int v18),.val (.int bq),.val (.int la),.val (.int 0),.val (.int y0),.val (.int v90),.val (.int z)]) (pc':=113) K d13_111 (oStoreDead rfl f3 rfl) rfl ?_
  refine Yb 115 K d13_113 ?_
  refine oW.if_ne (pc':=125) (pc3:=118) K d13_115 (by decide) (by decide) rfl (fun c115=>?_) (fun q=>(by simp only [oLt32,oEq32,Int32.reduceToInt] at q; omega))
  refine Yb 127 K d13_125 ?_
  refine Yj 129 K d13_127 U4 <|Yb 131 K d13_129 ?_
  refine Yj 133 K d13_131 U5 ?_
  refine Yg 1 136 K d13_133 U6 <|Yi 34 K d13_136 ?_
  exact IH34 (z,z,(1 : Int32),(.val (.int y0) : Slot),(.val (.int v90) : Slot),(.val (.int z) : Slot),cc',rc',hd',ea',k0',k1',k2',rds',cvs') (by dsimp only; have:=oTs; exact ⟨n2,0,hrs',hl1.trans h2,hl2.trans h3,by omega,Nat.zero_le _,fun i x h=>absurd h (Nat.not_lt_zero _),by omega,by omega,by omega,by omega,by omega,fun _=>by omega,Or.inr ⟨_,rfl⟩,Or.inr ⟨_,rfl⟩,Or.inr ⟨_,rfl⟩⟩) (by dsimp only; have:=oTs; omega)
 simp only [oLt32,oEq32,Int32.reduceToInt] at c72
 refine Yi 133 K d13_75 ?_
 refine Yg 1 136 K d13_133 U6 <|Yi 34 K d13_136 ?_
 exact IH34 (bq,la,(1 : Int32),(.val (.int y0) : Slot),(s2 : Slot),(s3 : Slot),ccL,rcL,hdL,eaL,k0L,k1L,k2L,rdsL,cvsL) (by dsimp only; have:=oTs; exact ⟨n',t,h1,h2,h3,ht1,ht2,h6,by omega,by omega,by omega,by omega,by omega,fun _=>by omega,Or.inr ⟨_,rfl⟩,f2,f3⟩) (by dsimp only; have:=oTs; omega)
theorem own_aw_1_2_2 (hw : oHw a0 Z) {D0 D2 D3 D4 D5 D6 D7 D8 D9 D11 D12 D13 : oDsc} {g0 g1 t0 t1 : Int64} {rt : List Value} {y0 y1 : Int32} (hy0 : 1≤y0.toInt∧y0.toInt≤100000) (hy1 : 1≤y1.toInt∧y1.toInt≤100000) (hy0y1 : y0.toInt < y1.toInt) (hch : oCh [g0,g1]) (hne00 : g0.toInt ≠ y0.toInt * 4294967296 + 1) (hne01 : g0.toInt ≠ y1.toInt * 4294967296 + 1) (hne10 : g1.toInt ≠ y0.toInt * 4294967296 + 1) (hne11 : g1.toInt ≠ y1.toInt * 4294967296 + 1) :
  oCtr l Z h0 [] nM28 prog_6_method_3_code 9 (some .int) (oR 1 0 0 24) #[.ref b10,.int 2,.ref b1,.int 1] [(b0,D0),(b1,.inl (.int,[.int y0,.int y1])),(b2,D2),(b3,D3),(b4,D4),(b5,D5),(b6,D6),(b7,D7),(b8,D8),(b9,D9),(b10,.inl (.long,(.long g0)::(.long g1)::(.long t0)::(.long t1)::rt)),(b11,D11),(b12,D12),(b13,D13)] (oVal fun w d=>∃ (z0 z1 z2 z3 : Int64),w=.int 4∧d=[(b0,D0),(b1,.inl (.int,[.int y0,.int y1])),(b2,D2),(b3,D3),(b4,D4),(b5,D5),(b6,D6),(b7,D7),(b8,D8),(b9,D9),(b10,.inl (.long,(.long z0)::(.long z1)::(.long z2)::(.long z3)::rt)),(b11,D11),(b12,D12),(b13,D13)]∧oCh [z0,z1,z2,z3]∧∀ v : Int,(v=z0.toInt∨v=z1.toInt∨v=z2.toInt∨v=z3.toInt) ↔ ((v=g0.toInt∨v=g1.toInt)∨(v=y0.toInt * 4294967296 + 1∨v=y1.toInt * 4294967296 + 1))):=by
 refine oCo #[.val (.ref b10),.val (.int 2),.val (.ref b1),.val (.int 1),.unset,.unset,.unset,.unset,.unset] ?_
 intro p e s m below meth c K
 simp only [oCh,and_true] at hch
 refine Ye 1 K d11_0 <|Ya 2 K d11_1 <|Yf 1 2 3 K d11_2 ?_
 refine Ym 4 4 K d11_3 <|Yd 1 5 K d11_4 ?_
 refine Y4 3 6 K d11_5 ?_
 refine Yj 8 K d11_6 U4 <|Ye 9 K d11_8 <|Yd 1 10 K d11_9 ?_
 refine Y4 1 11 K d11_10 ?_
 refine Yj 13 K d11_11 U5 <|Ya 14 K d11_13 <|Yf 1 2 15 K d11_14 <|Yd 1 16 K d11_15 ?_
 refine Y4 1 17 K d11_16 ?_
 refine Yj 19 K d11_17 U6 <|Yb 21 K d11_19 ?_
 refine Yw 81 24 K d11_21 <|Ya 25 K d11_24 <|Yb 27 K d11_25 <|Yn 1 1 28 K d11_27 <|Ye 29 K d11_28 ?_
 refine Yk [.int y1,.int 1] [] 0 0 0 32 K (hw 88) (hw 89) (hw 86) (hw 90) (own_of @hw (by omega) (by decide)) (lenOf pd_2 rfl) d11_29 ?_
 rintro _ _ ⟨c1,rfl,tc1,rfl⟩
 simp only [Int32.reduceToInt] at tc1
 refine Gf #[.val (.ref b10),.val (.int 2),.val (.ref b1),.val (.int 1),.val (.int 3),.val (.int 1),.val (.int 1),.val (.long c1),.second] 34 K d11_32 <|Yb 36 K d11_34 ?_
 refine Yw 66 39 K d11_36 <|Ya 40 K d11_39 <|Yb 42 K d11_40 <|Yt 10 1 43 K d11_42 <|Yo 45 K d11_43 ?_
 obtain ⟨v45,ev45⟩:=oE (XT.cmpL g1 c1 : Int32)
 refine Y6 46 K d11_45 ev45 ?_
 refine Y2 66 49 K d11_46 (fun c46=>?_) (fun c46=>?_)
 ·rw [(oLcmp ev45).2.2] at c46
  refine Ya 67 K d11_66 <|Yb 69 K d11_67 ?_
  refine Yg 2 72 K d11_69 U4 <|Yo 74 K d11_72 ?_
  refine Yp 10 3 75 K d11_74 rfl oL3 (S10 T3) ?_
  refine Yg 0 78 K d11_75 U6 <|Yi 19 K d11_78 <|Yb 21 K d11_19 ?_
  refine Yw 81 24 K d11_21 <|Ya 25 K d11_24 <|Yb 27 K d11_25 <|Yn 1 0 28 K d11_27 <|Ye 29 K d11_28 ?_
  refine Yk [.int y0,.int 1] [] 0 0 0 32 K (hw 88) (hw 89) (hw 86) (hw 90) (own_of @hw (by omega) (by decide)) (lenOf pd_2 rfl) d11_29 ?_
  rintro _ _ ⟨c0,rfl,tc0,rfl⟩
  simp only [Int32.reduceToInt] at tc0
  refine Gf #[.val (.ref b10),.val (.int 2),.val (.ref b1),.val (.int 1),.val (.int 2),.val (.int 1),.val (.int 0),.val (.long c0),.second] 34 K d11_32 <|Yb 36 K d11_34 ?_
  refine Yw 66 39 K d11_36 <|Ya 40 K d11_39 <|Yb 42 K d11_40 <|Yt 10 1 43 K d11_42 <|Yo 45 K d11_43 ?_
  obtain ⟨v45_1,ev45_1⟩:=oE (XT.cmpL g1 c0 : Int32)
  refine Y6 46 K d11_45 ev45_1 ?_
  refine Y2 66 49 K d11_46 (fun c46_1=>?_) (fun c46_1=>?_)
  ·rw [(oLcmp ev45_1).2.2] at c46_1
   refine Ya 67 K d11_66 <|Yb 69 K d11_67 ?_
   refine Yg 1 72 K d11_69 U4 <|Yo 74 K d11_72 ?_
   refine Yp 10 2 75 K d11_74 rfl oL2 (S10 T2) ?_
   refine Yg (-1 : Int32) 78 K d11_75 U6 <|Yi 19 K d11_78 <|Yb 21 K d11_19 ?_
   refine Ys 81 24 K d11_21 <|Ye 82 K d11_81 <|Ya 83 K d11_82 <|Yf 1 2 84 K d11_83 ?_
   refine Ym 4 85 K d11_84 ?_
   exact Yq K d11_85 ⟨_,rfl,_,_,_,_,rfl,rfl,⟨by omega,by omega,by omega,trivial⟩,fun v=>by omega⟩
  rw [(oLcmp ev45_1).2.2] at c46_1
  refine Ya 50 K d11_49 <|Yb 52 K d11_50 ?_
  refine Yg 1 55 K d11_52 U4 <|Ya 56 K d11_55 <|Yb 58 K d11_56 ?_
  refine Yg 0 61 K d11_58 U5 <|Yt 10 1 62 K d11_61 ?_
  refine Yp 10 2 63 K d11_62 rfl oL2 (S10 T2) <|Yi 34 K d11_63 <|Yb 36 K d11_34 ?_
  refine Yw 66 39 K d11_36 <|Ya 40 K d11_39 <|Yb 42 K d11_40 <|Yt 10 0 43 K d11_42 <|Yo 45 K d11_43 ?_
  obtain ⟨v45_2,ev45_2⟩:=oE (XT.cmpL g0 c0 : Int32)
  refine Y6 46 K d11_45 ev45_2 ?_
  refine Y2 66 49 K d11_46 (fun c46_2=>?_) (fun c46_2=>?_)
  ·rw [(oLcmp ev45_2).2.2] at c46_2
   refine Ya 67 K d11_66 <|Yb 69 K d11_67 ?_
   refine Yg 0 72 K d11_69 U4 <|Yo 74 K d11_72 ?_
   refine Yp 10 1 75 K d11_74 rfl oL1 (S10 T1) ?_
   refine Yg (-1 : Int32) 78 K d11_75 U6 <|Yi 19 K d11_78 <|Yb 21 K d11_19 ?_
   refine Ys 81 24 K d11_21 <|Ye 82 K d11_81 <|Ya 83 K d11_82 <|Yf 1 2 84 K d11_83 ?_
   refine Ym 4 85 K d11_84 ?_
   exact Yq K d11_85 ⟨_,rfl,_,_,_,_,rfl,rfl,⟨by omega,by omega,by omega,trivial⟩,fun v=>by omega⟩
  rw [(oLcmp ev45_2).2.2] at c46_2
  refine Ya 50 K d11_49 <|Yb 52 K d11_50 ?_
  refine Yg 0 55 K d11_52 U4 <|Ya 56 K d11_55 <|Yb 58 K d11_56 ?_
  refine Yg (-1 : Int32) 61 K d11_58 U5 <|Yt 10 0 62 K d11_61 ?_
  refine Yp 10 1 63 K d11_62 rfl oL1 (S10 T1) <|Yi 34 K d11_63 <|Yb 36 K d11_34 ?_
  refine Ys 66 39 K d11_36 <|Ya 67 K d11_66 <|Yb 69 K d11_67 ?_
  refine Yg (-1 : Int32) 72 K d11_69 U4 <|Yo 74 K d11_72 ?_
  refine Yp 10 0 75 K d11_74 rfl oL0 (S10 T0) ?_
  refine Yg (-1 : Int32) 78 K d11_75 U6 <|Yi 19 K d11_78 <|Yb 21 K d11_19 ?_
  refine Ys 81 24 K d11_21 <|Ye 82 K d11_81 <|Ya 83 K d11_82 <|Yf 1 2 84 K d11_83 ?_
  refine Ym 4 85 K d11_84 ?_
  exact Yq K d11_85 ⟨_,rfl,_,_,_,_,rfl,rfl,⟨by omega,by omega,by omega,trivial⟩,fun v=>by omega⟩
 rw [(oLcmp ev45).2.2] at c46
 refine Ya 50 K d11_49 <|Yb 52 K d11_50 ?_
 refine Yg 2 55 K d11_52 U4 <|Ya 56 K d11_55 <|Yb 58 K d11_56 ?_
 refine Yg 0 61 K d11_58 U5 <|Yt 10 1 62 K d11_61 ?_
 refine Yp 10 3 63 K d11_62 rfl oL3 (S10 T3) <|Yi 34 K d11_63 <|Yb 36 K d11_34 ?_
 refine Yw 66 39 K d11_36 <|Ya 40 K d11_39 <|Yb 42 K d11_40 <|Yt 10 0 43 K d11_42 <|Yo 45 K d11_43 ?_
 obtain ⟨v45_1,ev45_1⟩:=oE (XT.cmpL g0 c1 : Int32)
 refine Y6 46 K d11_45 ev45_1 ?_
 refine Y2 66 49 K d11_46 (fun c46_1=>?_) (fun c46_1=>?_)
 ·rw [(oLcmp ev45_1).2.2] at c46_1
  refine Ya 67 K d11_66 <|Yb 69 K d11_67 ?_
  refine Yg 1 72 K d11_69 U4 <|Yo 74 K d11_72 ?_
  refine Yp 10 2 75 K d11_74 rfl oL2 (S10 T2) ?_
  refine Yg 0 78 K d11_75 U6 <|Yi 19 K d11_78 <|Yb 21 K d11_19 ?_
  refine Yw 81 24 K d11_21 <|Ya 25 K d11_24 <|Yb 27 K d11_25 <|Yn 1 0 28 K d11_27 <|Ye 29 K d11_28 ?_
  refine Yk [.int y0,.int 1] [] 0 0 0 32 K (hw 88) (hw 89) (hw 86) (hw 90) (own_of @hw (by omega) (by decide)) (lenOf pd_2 rfl) d11_29 ?_
  rintro _ _ ⟨c0,rfl,tc0,rfl⟩
  simp only [Int32.reduceToInt] at tc0
  refine Gf #[.val (.ref b10),.val (.int 2),.val (.ref b1),.val (.int 1),.val (.int 1),.val (.int 0),.val (.int 0),.val (.long c0),.second] 34 K d11_32 <|Yb 36 K d11_34 ?_
  refine Yw 66 39 K d11_36 <|Ya 40 K d11_39 <|Yb 42 K d11_40 <|Yt 10 0 43 K d11_42 <|Yo 45 K d11_43 ?_
  obtain ⟨v45_2,ev45_2⟩:=oE (XT.cmpL g0 c0 : Int32)
  refine Y6 46 K d11_45 ev45_2 ?_
  refine Y2 66 49 K d11_46 (fun c46_2=>?_) (fun c46_2=>?_)
  ·rw [(oLcmp ev45_2).2.2] at c46_2
   refine Ya 67 K d11_66 <|Yb 69 K d11_67 ?_
   refine Yg 0 72 K d11_69 U4 <|Yo 74 K d11_72 ?_
   refine Yp 10 1 75 K d11_74 rfl oL1 (S10 T1) ?_
   refine Yg (-1 : Int32) 78 K d11_75 U6 <|Yi 19 K d11_78 <|Yb 21 K d11_19 ?_
   refine Ys 81 24 K d11_21 <|Ye 82 K d11_81 <|Ya 83 K d11_82 <|Yf 1 2 84 K d11_83 ?_
   refine Ym 4 85 K d11_84 ?_
   exact Yq K d11_85 ⟨_,rfl,_,_,_,_,rfl,rfl,⟨by omega,by omega,by omega,trivial⟩,fun v=>by omega⟩
  rw [(oLcmp ev45_2).2.2] at c46_2
  refine Ya 50 K d11_49 <|Yb 52 K d11_50 ?_
  refine Yg 0 55 K d11_52 U4 <|Ya 56 K d11_55 <|Yb 58 K d11_56 ?_
  refine Yg (-1 : Int32) 61 K d11_58 U5 <|Yt 10 0 62 K d11_61 ?_
  refine Yp 10 1 63 K d11_62 rfl oL1 (S10 T1) <|Yi 34 K d11_63 <|Yb 36 K d11_34 ?_
  refine Ys 66 39 K d11_36 <|Ya 67 K d11_66 <|Yb 69 K d11_67 ?_
  refine Yg (-1 : Int32) 72 K d11_69 U4 <|Yo 74 K d11_72 ?_
  refine Yp 10 0 75 K d11_74 rfl oL0 (S10 T0) ?_
  refine Yg (-1 : Int32) 78 K d11_75 U6 <|Yi 19 K d11_78 <|Yb 21 K d11_19 ?_
  refine Ys 81 24 K d11_21 <|Ye 82 K d11_81 <|Ya 83 K d11_82 <|Yf 1 2 84 K d11_83 ?_
  refine Ym 4 85 K d11_84 ?_
  exact Yq K d11_85 ⟨_,rfl,_,_,_,_,rfl,rfl,⟨by omega,by omega,by omega,trivial⟩,fun v=>by omega⟩
 rw [(oLcmp ev45_1).2.2] at c46_1
 refine Ya 50 K d11_49 <|Yb 52 K d11_50 ?_
 refine Yg 1 55 K d11_52 U4 <|Ya 56 K d11_55 <|Yb 58 K d11_56 ?_
 refine Yg (-1 : Int32) 61 K d11_58 U5 <|Yt 10 0 62 K d11_61 ?_
 refine Yp 10 2 63 K d11_62 rfl oL2 (S10 T2) <|Yi 34 K d11_63 <|Yb 36 K d11_34 ?_
 refine Ys 66 39 K d11_36 <|Ya 67 K d11_66 <|Yb 69 K d11_67 ?_
 refine Yg 0 72 K d11_69 U4 <|Yo 74 K d11_72 ?_
 refine Yp 10 1 75 K d11_74 rfl oL1 (S10 T1) ?_
 refine Yg 0 78 K d11_75 U6 <|Yi 19 K d11_78 <|Yb 21 K d11_19 ?_
 refine Yw 81 24 K d11_21 <|Ya 25 K d11_24 <|Yb 27 K d11_25 <|Yn 1 0 28 K d11_27 <|Ye 29 K d11_28 ?_
 refine Yk [.int y0,.int 1] [] 0 0 0 32 K (hw 88) (hw 89) (hw 86) (hw 90) (own_of @hw (by omega) (by decide)) (lenOf pd_2 rfl) d11_29 ?_
 rintro _ _ ⟨c0,rfl,tc0,rfl⟩
 simp only [Int32.reduceToInt] at tc0
 refine Gf #[.val (.ref b10),.val (.int 2),.val (.ref b1),.val (.int 1),.val (.int 0),.val (.int (-1)),.val (.int 0),.val (.long c0),.second] 34 K d11_32 <|Yb 36 K d11_34 ?_
 refine Ys 66 39 K d11_36 <|Ya 67 K d11_66 <|Yb 69 K d11_67 ?_
 refine Yg (-1 : Int32) 72 K d11_69 U4 <|Yo 74 K d11_72 ?_
 refine Yp 10 0 75 K d11_74 rfl oL0 (S10 T0) ?_
 refine Yg (-1 : Int32) 78 K d11_75 U6 <|Yi 19 K d11_78 <|Yb 21 K d11_19 ?_
 refine Ys 81 24 K d11_21 <|Ye 82 K d11_81 <|Ya 83 K d11_82 <|Yf 1 2 84 K d11_83 ?_
 refine Ym 4 85 K d11_84 ?_
 exact Yq K d11_85 ⟨_,rfl,_,_,_,_,rfl,rfl,⟨by omega,by omega,by omega,trivial⟩,fun v=>by omega⟩
theorem own_add1_1_22 (hw : oHw a0 Z) {D2 D9 D11 D12 D13 : oDsc} {f_dl f_wi f_cc f_rc f_hd f_ea : Value} {g0 g1 : Int64} {x0 x1 y0 y1 : Int32} (hy0 : 1≤y0.toInt∧y0.toInt≤100000) (hy1 : 1≤y1.toInt∧y1.toInt≤100000) (hy0y1 : y0.toInt < y1.toInt) (hch : oCh [g0,g1]) (hne00 : g0.toInt ≠ y0.toInt * 4294967296 + 1) (hne01 : g0.toInt ≠ y1.toInt * 4294967296 + 1) (hne10 : g1.toInt ≠ y0.toInt * 4294967296 + 1) (hne11 : g1.toInt ≠ y1.toInt * 4294967296 + 1) :
  oCtr l Z h0 [] nM29 prog_7_method_3_code 5 none (oR 2 3 24 90) #[.ref b3,.int 1,.ref b1] [(b0,.inl (.int,[.int x0,.int x1])),(b1,.inl (.int,[.int y0,.int y1])),(b2,D2),(b3,oP b10 b13 b11 b12 b4 b5 b6 b7 b8 b9 (.int 1) (.ref b0) (.int 1) (.int 2) f_dl f_wi f_cc f_rc f_hd f_ea),(b4,.inl (.boolean,[.int 1,.int 0,.int 0])),(b5,.inl (.int,[.int 0,.int 0,.int 0])),(b6,.inl (.int,[.int 0,.int 2147483647,.int 2147483647])),(b7,.inl (.int,[.int 0,.int 0,.int 0])),(b8,.inl (.array .int,[.ref b0,.null,.null])),(b9,D9),(b10,.inl (.long,[.long g0,.long g1])),(b11,D11),(b12,D12),(b13,D13)] (oVoid fun d=>∃ (b10' b11' b12' : Addr) (z0 z1 z2 z3 : Int64),d=[(b0,.inl (.int,[.int x0,.int x1])),(b1,.inl (.int,[.int y0,.int y1])),(b2,D2),(b3,oP b10' b13 b11' b12' b4 b5 b6 b7 b8 b9 (.int 2) (.ref b0) (.int 2) (.int 4) f_dl f_wi f_cc f_rc f_hd f_ea),(b4,.inl (.boolean,[.int 1,.int 1,.int 0])),(b5,.inl (.int,[.int 0,.int 1,.int 0])),(b6,.inl (.int,[.int 0,.int 1,.int 2147483647])),(b7,.inl (.int,[.int 0,.int 1,.int 0])),(b8,.inl (.array .int,[.ref b0,.ref b1,.null])),(b9,D9),(b10',.inl (.long,[.long z0,.long z1,.long z2,.long z3])),(b11',.inl (.long,[.long 0,.long 0,.long 0,.long 0])),(b12',.inl (.int,[.int 0,.int 0,.int 0,.int 0])),(b13,D13)]∧oCh [z0,z1,z2,z3]∧∀ v : Int,(v=z0.toInt∨v=z1.toInt∨v=z2.toInt∨v=z3.toInt) ↔ ((v=g0.toInt∨v=g1.toInt)∨(v=y0.toInt * 4294967296 + 1∨v=y1.toInt * 4294967296 + 1))):=by
 refine oCo #[.val (.ref b3),.val (.int 1),.val (.ref b1),.unset,.unset] ?_
 intro p e s m below meth c K
 refine Ya 1 K d8_0 <|Yc 3 6 4 K (hw 32) d8_1 <|Ye 5 K d8_4 <|Ya 6 K d8_5 <|Yc 3 10 9 K (hw 57) d8_6 ?_
 refine Yr 6 1 10 K d8_9 rfl (S6 T1) <|Ya 11 K d8_10 <|Yc 3 7 14 K (hw 39) d8_11 <|Ya 15 K d8_14 <|Yc 3 10 18 K (hw 57) d8_15 <|Ye 19 K d8_18 ?_
 refine Yr 7 1 20 K d8_19 rfl (S7 T1) <|Ya 21 K d8_20 <|Yc 3 8 24 K (hw 43) d8_21 <|Ya 25 K d8_24 <|Yc 3 10 28 K (hw 57) d8_25 <|Ya 29 K d8_28 ?_
 refine Go 8 1 1 30 K d8_29 rfl (S8 T1) <|Ya 31 K d8_30 ?_
 refine Yv 32 K d8_31 <|Yc 3 10 35 K (hw 57) d8_32 <|Yd 1 36 K d8_35 ?_
 refine Ym 2 37 K d8_36 ?_
 refine Yl 3 10 .int 40 K (hw 57) (Or.inl (hw 58)) (hw 10) (oAp_0 @hw) d8_37 rfl rfl (P3 F10) <|Ya 41 K d8_40 <|Yc 3 4 44 K (hw 28) d8_41 <|Ye 45 K d8_44 <|Gn 4 1 46 K d8_45 ?_
 refine Gc 149 49 K d8_46 <|Ya 50 K d8_49 <|Yc 3 4 53 K (hw 28) d8_50 <|Ye 54 K d8_53 <|Yd 1 55 K d8_54 ?_
 refine Gy 4 1 (.int (1 : Int32)) 56 K d8_55 rfl (S4 T1) <|Ya 57 K d8_56 <|Yc 3 5 60 K (hw 30) d8_57 <|Ya 61 K d8_60 ?_
 refine Yv 62 K d8_61 <|Yc 3 12 65 K (hw 61) d8_62 ?_
 refine Gg 66 K d8_65 <|Yd 1 67 K d8_66 ?_
 refine Ym 2 68 K d8_67 ?_
 refine Yl 3 12 .int 71 K (hw 61) (Or.inl (hw 62)) (hw 10) (oAp_0 @hw) d8_68 rfl rfl (P3 F12) <|Ye 72 K d8_71 ?_
 refine Yr 5 1 73 K d8_72 rfl (S5 T1) <|Ya 74 K d8_73 <|Yc 3 13 77 K (hw 63) d8_74 <|Ya 78 K d8_77 <|Yf 1 2 79 K d8_78 ?_
 refine Ym 4 80 K d8_79 ?_
 refine Yz 81 K d8_80 U3 <|Ya 82 K d8_81 <|Yc 3 0 85 K (hw 19) d8_82 <|Yf 10 2 86 K d8_85 <|Ye 87 K d8_86 ?_
 refine Yy 132 90 K d8_87 <|Ye 91 K d8_90 <|Yd 2 92 K d8_91 <|Ya 93 K d8_92 <|Yc 3 0 96 K (hw 19) d8_93 <|Yf 10 2 97 K d8_96 ?_
 refine Gq 4 98 K d8_97 ?_
 refine Yk [.int 4,.int 4] [] 0 0 0 101 K (hw 73) (hw 6) (hw 7) (hw 8) (own_max @hw) (lenOf pd_9 rfl) d8_98 ?_
 rintro _ _ ⟨mz,rfl,hmz,rfl⟩
 obtain rfl : mz=(4 : Int32):=oEq32.mpr (hmz.trans (by decide))
 refine Yj 103 K d8_101 U4 <|Ya 104 K d8_103 <|Ya 105 K d8_104 <|Yc 3 0 108 K (hw 19) d8_105 <|Yb 110 K d8_108 ?_
 refine Yk [.ref b10,.int 4] [.ref b3] 1 1 4 113 K (hw 74) (hw 75) (hw 37) (hw 76) (own_copy_2_4 @hw) (lenOf pd_13 rfl) d8_110 ?_
 rintro _ _ ⟨b14,rfl,rfl⟩
 refine Yl 3 0 (.array .long) 116 K (hw 19) (Or.inl (hw 20)) (hw 10) (oAp_0 @hw) d8_113 rfl rfl (P3 F0) <|Ya 117 K d8_116 <|Yb 119 K d8_117 ?_
 refine Y3 4 2 8 121 K (hw 18) d8_119 (N15 (.inl (.long,[.long 0,.long 0,.long 0,.long 0]))) ?_
 intro a119 ha119
 refine Yl 3 2 (.array .long) 124 K (hw 23) (Or.inl (hw 24)) (hw 10) (oAp_0 @hw) d8_121 rfl rfl (P3 F2) <|Ya 125 K d8_124 <|Yb 127 K d8_125 ?_
 refine Y3 4 3 12 129 K (hw 4) d8_127 (N16 (.inl (.int,[.int 0,.int 0,.int 0,.int 0]))) ?_
 intro a127 ha127
 refine Yl 3 3 (.array .int) 132 K (hw 25) (Or.inl (hw 26)) (hw 10) (oAp_0 @hw) d8_129 rfl rfl (P3 F3) ?_
 refine oPk1 ?_
 refine Ya 133 K d8_132 <|Ya 134 K d8_133 <|Yc 3 0 137 K (hw 19) d8_134 <|Ya 138 K d8_137 <|Yc 3 13 141 K (hw 63) d8_138 <|Ya 142 K d8_141 <|Ye 143 K d8_142 ?_
 refine Yk [.ref b14,.int 2,.ref b1,.int 1] [.ref b3] 1 3 12 146 K (hw 84) (hw 85) (hw 86) (hw 87) (own_aw_1_2_2 @hw (by omega) (by omega) (by omega) hch hne00 hne01 hne10 hne11) (lenOf pd_14 rfl) d8_143 ?_
 rintro _ _ ⟨z0,z1,z2,z3,rfl,rfl,hz1,hz2⟩
 refine Yl 3 13 .int 149 K (hw 63) (Or.inl (hw 64)) (hw 10) (oAp_0 @hw) d8_146 rfl rfl (P3 F13) <|Ya 150 K d8_149 <|Yc 3 11 153 K (hw 59) d8_150 ?_
 refine Hl 156 K d8_153 <|Yd 2 157 K d8_156 <|Ya 158 K d8_157 <|Yf 1 2 159 K d8_158 ?_
 refine Gq 4 160 K d8_159 <|Ya 161 K d8_160 <|Yc 3 11 164 K (hw 59) d8_161 <|Yf 0 2 165 K d8_164 ?_
 refine Hb 178 168 K d8_165 ?_
 exact Ga K d8_178 ⟨rfl,_,_,_,_,_,_,_,rfl,hz1,hz2⟩
theorem own_aw_2_4_1 (hw : oHw a0 Z) {D0 D1 D3 D4 D5 D6 D7 D8 D9 D11 D12 D13 : oDsc} {g0 g1 g2 g3 t0 : Int64} {rt : List Value} {y0 : Int32} (hy0 : 1≤y0.toInt∧y0.toInt≤100000) (hch : oCh [g0,g1,g2,g3]) (hne00 : g0.toInt ≠ y0.toInt * 4294967296 + 2) (hne10 : g1.toInt ≠ y0.toInt * 4294967296 + 2) (hne20 : g2.toInt ≠ y0.toInt * 4294967296 + 2) (hne30 : g3.toInt ≠ y0.toInt * 4294967296 + 2) :
  oCtr l Z h0 [] nM28 prog_6_method_3_code 9 (some .int) (oR 1 0 0 24) #[.ref b10,.int 4,.ref b2,.int 2] [(b0,D0),(b1,D1),(b2,.inl (.int,[.int y0])),(b3,D3),(b4,D4),(b5,D5),(b6,D6),(b7,D7),(b8,D8),(b9,D9),(b10,.inl (.long,(.long g0)::(.long g1)::(.long g2)::(.long g3)::(.long t0)::rt)),(b11,D11),(b12,D12),(b13,D13)] (oVal fun w d=>∃ (z0 z1 z2 z3 z4 : Int64),w=.int 5∧d=[(b0,D0),(b1,D1),(b2,.inl (.int,[.int y0])),(b3,D3),(b4,D4),(b5,D5),(b6,D6),(b7,D7),(b8,D8),(b9,D9),(b10,.inl (.long,(.long z0)::(.long z1)::(.long z2)::(.long z3)::(.long z4)::rt)),(b11,D11),(b12,D12),(b13,D13)]∧oCh [z0,z1,z2,z3,z4]∧∀ v : Int,(v=z0.toInt∨v=z1.toInt∨v=z2.toInt∨v=z3.toInt∨v=z4.toInt) ↔ ((v=g0.toInt∨v=g1.toInt∨v=g2.toInt∨v=g3.toInt)∨(v=y0.toInt * 4294967296 + 2))):=by
 refine oCo #[.val (.ref b10),.val (.int 4),.val (.ref b2),.val (.int 2),.unset,.unset,.unset,.unset,.unset] ?_
 intro p e s m below meth c K
 simp only [oCh,and_true] at hch
 refine Ye 1 K d11_0 <|Ya 2 K d11_1 <|Yf 2 1 3 K d11_2 ?_
 refine Ym 5 4 K d11_3 <|Yd 1 5 K d11_4 ?_
 refine Y4 4 6 K d11_5 ?_
 refine Yj 8 K d11_6 U4 <|Ye 9 K d11_8 <|Yd 1 10 K d11_9 ?_
 refine Y4 3 11 K d11_10 ?_
 refine Yj 13 K d11_11 U5 <|Ya 14 K d11_13 <|Yf 2 1 15 K d11_14 <|Yd 1 16 K d11_15 ?_
 refine Y4 0 17 K d11_16 ?_
 refine Yj 19 K d11_17 U6 <|Yb 21 K d11_19 ?_
 refine Yw 81 24 K d11_21 <|Ya 25 K d11_24 <|Yb 27 K d11_25 <|Yn 2 0 28 K d11_27 <|Ye 29 K d11_28 ?_
 refine Yk [.int y0,.int 2] [] 0 0 0 32 K (hw 88) (hw 89) (hw 86) (hw 90) (own_of @hw (by omega) (by decide)) (lenOf pd_2 rfl) d11_29 ?_
 rintro _ _ ⟨c0,rfl,tc0,rfl⟩
 simp only [Int32.reduceToInt] at tc0
 refine Gf #[.val (.ref b10),.val (.int 4),.val (.ref b2),.val (.int 2),.val (.int 4),.val (.int 3),.val (.int 0),.val (.long c0),.second] 34 K d11_32 <|Yb 36 K d11_34 ?_
 refine Yw 66 39 K d11_36 <|Ya 40 K d11_39 <|Yb 42 K d11_40 <|Yt 10 3 43 K d11_42 <|Yo 45 K d11_43 ?_
 obtain ⟨v45,ev45⟩:=oE (XT.cmpL g3 c0 : Int32)
 refine Y6 46 K d11_45 ev45 ?_
 refine Y2 66 49 K d11_46 (fun c46=>?_) (fun c46=>?_)
 ·rw [(oLcmp ev45).2.2] at c46
  refine Ya 67 K d11_66 <|Yb 69 K d11_67 ?_
  refine Yg 3 72 K d11_69 U4 <|Yo 74 K d11_72 ?_
  refine Yp 10 4 75 K d11_74 rfl oL4 (S10 T4) ?_
  refine Yg (-1 : Int32) 78 K d11_75 U6 <|Yi 19 K d11_78 <|Yb 21 K d11_19 ?_
  refine Ys 81 24 K d11_21 <|Ye 82 K d11_81 <|Ya 83 K d11_82 <|Yf 2 1 84 K d11_83 ?_
  refine Ym 5 85 K d11_84 ?_
  exact Yq K d11_85 ⟨_,rfl,_,_,_,_,_,rfl,rfl,⟨by omega,by omega,by omega,by omega,trivial⟩,fun v=>by omega⟩
 rw [(oLcmp ev45).2.2] at c46
 refine Ya 50 K d11_49 <|Yb 52 K d11_50 ?_
 refine Yg 3 55 K d11_52 U4 <|Ya 56 K d11_55 <|Yb 58 K d11_56 ?_
 refine Yg 2 61 K d11_58 U5 <|Yt 10 3 62 K d11_61 ?_
 refine Yp 10 4 63 K d11_62 rfl oL4 (S10 T4) <|Yi 34 K d11_63 <|Yb 36 K d11_34 ?_
 refine Yw 66 39 K d11_36 <|Ya 40 K d11_39 <|Yb 42 K d11_40 <|Yt 10 2 43 K d11_42 <|Yo 45 K d11_43 ?_
 obtain ⟨v45_1,ev45_1⟩:=oE (XT.cmpL g2 c0 : Int32)
 refine Y6 46 K d11_45 ev45_1 ?_
 refine Y2 66 49 K d11_46 (fun c46_1=>?_) (fun c46_1=>?_)
 ·rw [(oLcmp ev45_1).2.2] at c46_1
  refine Ya 67 K d11_66 <|Yb 69 K d11_67 ?_
  refine Yg 2 72 K d11_69 U4 <|Yo 74 K d11_72 ?_
  refine Yp 10 3 75 K d11_74 rfl oL3 (S10 T3) ?_
  refine Yg (-1 : Int32) 78 K d11_75 U6 <|Yi 19 K d11_78 <|Yb 21 K d11_19 ?_
  refine Ys 81 24 K d11_21 <|Ye 82 K d11_81 <|Ya 83 K d11_82 <|Yf 2 1 84 K d11_83 ?_
  refine Ym 5 85 K d11_84 ?_
  exact Yq K d11_85 ⟨_,rfl,_,_,_,_,_,rfl,rfl,⟨by omega,by omega,by omega,by omega,trivial⟩,fun v=>by omega⟩
 rw [(oLcmp ev45_1).2.2] at c46_1
 refine Ya 50 K d11_49 <|Yb 52 K d11_50 ?_
 refine Yg 2 55 K d11_52 U4 <|Ya 56 K d11_55 <|Yb 58 K d11_56 ?_
 refine Yg 1 61 K d11_58 U5 <|Yt 10 2 62 K d11_61 ?_
 refine Yp 10 3 63 K d11_62 rfl oL3 (S10 T3) <|Yi 34 K d11_63 <|Yb 36 K d11_34 ?_
 refine Yw 66 39 K d11_36 <|Ya 40 K d11_39 <|Yb 42 K d11_40 <|Yt 10 1 43 K d11_42 <|Yo 45 K d11_43 ?_
 obtain ⟨v45_2,ev45_2⟩:=oE (XT.cmpL g1 c0 : Int32)
 refine Y6 46 K d11_45 ev45_2 ?_
 refine Y2 66 49 K d11_46 (fun c46_2=>?_) (fun c46_2=>?_)
 ·rw [(oLcmp ev45_2).2.2] at c46_2
  refine Ya 67 K d11_66 <|Yb 69 K d11_67 ?_
  refine Yg 1 72 K d11_69 U4 <|Yo 74 K d11_72 ?_
  refine Yp 10 2 75 K d11_74 rfl oL2 (S10 T2) ?_
  refine Yg (-1 : Int32) 78 K d11_75 U6 <|Yi 19 K d11_78 <|Yb 21 K d11_19 ?_
  refine Ys 81 24 K d11_21 <|Ye 82 K d11_81 <|Ya 83 K d11_82 <|Yf 2 1 84 K d11_83 ?_
  refine Ym 5 85 K d11_84 ?_
  exact Yq K d11_85 ⟨_,rfl,_,_,_,_,_,rfl,rfl,⟨by omega,by omega,by omega,by omega,trivial⟩,fun v=>by omega⟩
 rw [(oLcmp ev45_2).2.2] at c46_2
 refine Ya 50 K d11_49 <|Yb 52 K d11_50 ?_
 refine Yg 1 55 K d11_52 U4 <|Ya 56 K d11_55 <|Yb 58 K d11_56 ?_
 refine Yg 0 61 K d11_58 U5 <|Yt 10 1 62 K d11_61 ?_
 refine Yp 10 2 63 K d11_62 rfl oL2 (S10 T2) <|Yi 34 K d11_63 <|Yb 36 K d11_34 ?_
 refine Yw 66 39 K d11_36 <|Ya 40 K d11_39 <|Yb 42 K d11_40 <|Yt 10 0 43 K d11_42 <|Yo 45 K d11_43 ?_
 obtain ⟨v45_3,ev45_3⟩:=oE (XT.cmpL g0 c0 : Int32)
 refine Y6 46 K d11_45 ev45_3 ?_
 refine Y2 66 49 K d11_46 (fun c46_3=>?_) (fun c46_3=>?_)
 ·rw [(oLcmp ev45_3).2.2] at c46_3
  refine Ya 67 K d11_66 <|Yb 69 K d11_67 ?_
  refine Yg 0 72 K d11_69 U4 <|Yo 74 K d11_72 ?_
  refine Yp 10 1 75 K d11_74 rfl oL1 (S10 T1) ?_
  refine Yg (-1 : Int32) 78 K d11_75 U6 <|Yi 19 K d11_78 <|Yb 21 K d11_19 ?_
  refine Ys 81 24 K d11_21 <|Ye 82 K d11_81 <|Ya 83 K d11_82 <|Yf 2 1 84 K d11_83 ?_
  refine Ym 5 85 K d11_84 ?_
  exact Yq K d11_85 ⟨_,rfl,_,_,_,_,_,rfl,rfl,⟨by omega,by omega,by omega,by omega,trivial⟩,fun v=>by omega⟩
 rw [(oLcmp ev45_3).2.2] at c46_3
 refine Ya 50 K d11_49 <|Yb 52 K d11_50 ?_
 refine Yg 0 55 K d11_52 U4 <|Ya 56 K d11_55 <|Yb 58 K d11_56 ?_
 refine Yg (-1 : Int32) 61 K d11_58 U5 <|Yt 10 0 62 K d11_61 ?_
 refine Yp 10 1 63 K d11_62 rfl oL1 (S10 T1) <|Yi 34 K d11_63 <|Yb 36 K d11_34 ?_
 refine Ys 66 39 K d11_36 <|Ya 67 K d11_66 <|Yb 69 K d11_67 ?_
 refine Yg (-1 : Int32) 72 K d11_69 U4 <|Yo 74 K d11_72 ?_
 refine Yp 10 0 75 K d11_74 rfl oL0 (S10 T0) ?_
 refine Yg (-1 : Int32) 78 K d11_75 U6 <|Yi 19 K d11_78 <|Yb 21 K d11_19 ?_
 refine Ys 81 24 K d11_21 <|Ye 82 K d11_81 <|Ya 83 K d11_82 <|Yf 2 1 84 K d11_83 ?_
 refine Ym 5 85 K d11_84 ?_
 exact Yq K d11_85 ⟨_,rfl,_,_,_,_,_,rfl,rfl,⟨by omega,by omega,by omega,by omega,trivial⟩,fun v=>by omega⟩
theorem own_add3_2_221 (hw : oHw a0 Z) {D0 D1 D9 D11 D12 D13 : oDsc} {f_dl f_wi f_cc f_rc f_hd f_ea : Value} {g0 g1 g2 g3 : Int64} {u0 : Int32} (hu0 : 1≤u0.toInt∧u0.toInt≤100000) (hch : oCh [g0,g1,g2,g3]) (hne00 : g0.toInt ≠ u0.toInt * 4294967296 + 2) (hne10 : g1.toInt ≠ u0.toInt * 4294967296 + 2) (hne20 : g2.toInt ≠ u0.toInt * 4294967296 + 2) (hne30 : g3.toInt ≠ u0.toInt * 4294967296 + 2) :
  oCtr l Z h0 [] nM29 prog_7_method_3_code 5 none (oR 2 3 24 90) #[.ref b3,.int 2,.ref b2] [(b0,D0),(b1,D1),(b2,.inl (.int,[.int u0])),(b3,oP b10 b13 b11 b12 b4 b5 b6 b7 b8 b9 (.int 0) .null (.int 2) (.int 4) f_dl f_wi f_cc f_rc f_hd f_ea),(b4,.inl (.boolean,[.int 1,.int 1,.int 0])),(b5,.inl (.int,[.int 0,.int 1,.int 0])),(b6,.inl (.int,[.int 2147483647,.int 2147483647,.int 2147483647])),(b7,.inl (.int,[.int 0,.int 1,.int 0])),(b8,.inl (.array .int,[.null,.null,.null])),(b9,D9),(b10,.inl (.long,[.long g0,.long g1,.long g2,.long g3])),(b11,D11),(b12,D12),(b13,D13)] (oVoid fun d=>∃ (b10' b11' b12' : Addr) (z0 z1 z2 z3 z4 : Int64),d=[(b0,D0),(b1,D1),(b2,.inl (.int,[.int u0])),(b3,oP b10' b13 b11' b12' b4 b5 b6 b7 b8 b9 (.int 1) (.ref b2) (.int 3) (.int 5) f_dl (.int 0) f_cc f_rc f_hd f_ea),(b4,.inl (.boolean,[.int 1,.int 1,.int 1])),(b5,.inl (.int,[.int 0,.int 1,.int 2])),(b6,.inl (.int,[.int 2147483647,.int 2147483647,.int 0])),(b7,.inl (.int,[.int 2,.int 1,.int 0])),(b8,.inl (.array .int,[.ref b2,.null,.null])),(b9,D9),(b10',.inl (.long,[.long z0,.long z1,.long z2,.long z3,.long z4,.long 0,.long 0,.long 0])),(b11',.inl (.long,[.long 0,.long 0,.long 0,.long 0,.long 0,.long 0,.long 0,.long 0])),(b12',.inl (.int,[.int 0,.int 0,.int 0,.int 0,.int 0,.int 0,.int 0,.int 0])),(b13,D13)]∧oCh [z0,z1,z2,z3,z4]∧∀ v : Int,(v=z0.toInt∨v=z1.toInt∨v=z2.toInt∨v=z3.toInt∨v=z4.toInt) ↔ ((v=g0.toInt∨v=g1.toInt∨v=g2.toInt∨v=g3.toInt)∨(v=u0.toInt * 4294967296 + 2))):=by
 refine oCo #[.val (.ref b3),.val (.int 2),.val (.ref b2),.unset,.unset] ?_
 intro p e s m below meth c K
 refine Ya 1 K d8_0 <|Yc 3 6 4 K (hw 32) d8_1 <|Ye 5 K d8_4 <|Ya 6 K d8_5 <|Yc 3 10 9 K (hw 57) d8_6 ?_
 refine Yr 6 2 10 K d8_9 rfl (S6 T2) <|Ya 11 K d8_10 <|Yc 3 7 14 K (hw 39) d8_11 <|Ya 15 K d8_14 <|Yc 3 10 18 K (hw 57) d8_15 <|Ye 19 K d8_18 ?_
 refine Yr 7 0 20 K d8_19 rfl (S7 T0) <|Ya 21 K d8_20 <|Yc 3 8 24 K (hw 43) d8_21 <|Ya 25 K d8_24 <|Yc 3 10 28 K (hw 57) d8_25 <|Ya 29 K d8_28 ?_
 refine Go 8 2 0 30 K d8_29 rfl (S8 T0) <|Ya 31 K d8_30 ?_
 refine Yv 32 K d8_31 <|Yc 3 10 35 K (hw 57) d8_32 <|Yd 1 36 K d8_35 ?_
 refine Ym 1 37 K d8_36 ?_
 refine Yl 3 10 .int 40 K (hw 57) (Or.inl (hw 58)) (hw 10) (oAp_0 @hw) d8_37 rfl rfl (P3 F10) <|Ya 41 K d8_40 <|Yc 3 4 44 K (hw 28) d8_41 <|Ye 45 K d8_44 <|Gn 4 2 46 K d8_45 ?_
 refine Gc 149 49 K d8_46 <|Ya 50 K d8_49 <|Yc 3 4 53 K (hw 28) d8_50 <|Ye 54 K d8_53 <|Yd 1 55 K d8_54 ?_
 refine Gy 4 2 (.int (1 : Int32)) 56 K d8_55 rfl (S4 T2) <|Ya 57 K d8_56 <|Yc 3 5 60 K (hw 30) d8_57 <|Ya 61 K d8_60 ?_
 refine Yv 62 K d8_61 <|Yc 3 12 65 K (hw 61) d8_62 ?_
 refine Gg 66 K d8_65 <|Yd 1 67 K d8_66 ?_
 refine Ym 3 68 K d8_67 ?_
 refine Yl 3 12 .int 71 K (hw 61) (Or.inl (hw 62)) (hw 10) (oAp_0 @hw) d8_68 rfl rfl (P3 F12) <|Ye 72 K d8_71 ?_
 refine Yr 5 2 73 K d8_72 rfl (S5 T2) <|Ya 74 K d8_73 <|Yc 3 13 77 K (hw 63) d8_74 <|Ya 78 K d8_77 <|Yf 2 1 79 K d8_78 ?_
 refine Ym 5 80 K d8_79 ?_
 refine Yz 81 K d8_80 U3 <|Ya 82 K d8_81 <|Yc 3 0 85 K (hw 19) d8_82 <|Yf 10 4 86 K d8_85 <|Ye 87 K d8_86 ?_
 refine Yy 132 90 K d8_87 <|Ye 91 K d8_90 <|Yd 2 92 K d8_91 <|Ya 93 K d8_92 <|Yc 3 0 96 K (hw 19) d8_93 <|Yf 10 4 97 K d8_96 ?_
 refine Gq 8 98 K d8_97 ?_
 refine Yk [.int 5,.int 8] [] 0 0 0 101 K (hw 73) (hw 6) (hw 7) (hw 8) (own_max @hw) (lenOf pd_9 rfl) d8_98 ?_
 rintro _ _ ⟨mz,rfl,hmz,rfl⟩
 obtain rfl : mz=(8 : Int32):=oEq32.mpr (hmz.trans (by decide))
 refine Yj 103 K d8_101 U4 <|Ya 104 K d8_103 <|Ya 105 K d8_104 <|Yc 3 0 108 K (hw 19) d8_105 <|Yb 110 K d8_108 ?_
 refine Yk [.ref b10,.int 8] [.ref b3] 1 1 8 113 K (hw 74) (hw 75) (hw 37) (hw 76) (own_copy_4_8 @hw) (lenOf pd_13 rfl) d8_110 ?_
 rintro _ _ ⟨b14,rfl,rfl⟩
 refine Yl 3 0 (.array .long) 116 K (hw 19) (Or.inl (hw 20)) (hw 10) (oAp_0 @hw) d8_113 rfl rfl (P3 F0) <|Ya 117 K d8_116 <|Yb 119 K d8_117 ?_
 refine Y3 8 2 16 121 K (hw 18) d8_119 (N15 (.inl (.long,[.long 0,.long 0,.long 0,.long 0,.long 0,.long 0,.long 0,.long 0]))) ?_
 intro a119 ha119
 refine Yl 3 2 (.array .long) 124 K (hw 23) (Or.inl (hw 24)) (hw 10) (oAp_0 @hw) d8_121 rfl rfl (P3 F2) <|Ya 125 K d8_124 <|Yb 127 K d8_125 ?_
 refine Y3 8 3 24 129 K (hw 4) d8_127 (N16 (.inl (.int,[.int 0,.int 0,.int 0,.int 0,.int 0,.int 0,.int 0,.int 0]))) ?_
 intro a127 ha127
 refine Yl 3 3 (.array .int) 132 K (hw 25) (Or.inl (hw 26)) (hw 10) (oAp_0 @hw) d8_129 rfl rfl (P3 F3) ?_
 refine oPk1 ?_
 refine Ya 133 K d8_132 <|Ya 134 K d8_133 <|Yc 3 0 137 K (hw 19) d8_134 <|Ya 138 K d8_137 <|Yc 3 13 141 K (hw 63) d8_138 <|Ya 142 K d8_141 <|Ye 143 K d8_142 ?_
 refine Yk [.ref b14,.int 4,.ref b2,.int 2] [.ref b3] 1 3 24 146 K (hw 84) (hw 85) (hw 86) (hw 87) (own_aw_2_4_1 @hw (by omega) hch hne00 hne10 hne20 hne30) (lenOf pd_14 rfl) d8_143 ?_
 rintro _ _ ⟨z0,z1,z2,z3,z4,rfl,rfl,hz1,hz2⟩
 refine Yl 3 13 .int 149 K (hw 63) (Or.inl (hw 64)) (hw 10) (oAp_0 @hw) d8_146 rfl rfl (P3 F13) <|Ya 150 K d8_149 <|Yc 3 11 153 K (hw 59) d8_150 ?_
 refine Gw 168 K d8_153 <|Ya 169 K d8_168 <|Ya 170 K d8_169 ?_
 refine Yl 3 11 (.array .int) 173 K (hw 59) (Or.inl (hw 60)) (hw 10) (oAp_0 @hw) d8_170 rfl rfl (P3 F11) <|Ya 174 K d8_173 <|Yd 0 175 K d8_174 ?_
 refine Yl 3 15 .int 178 K (hw 91) (Or.inl (hw 92)) (hw 10) (oAp_0 @hw) d8_175 rfl rfl (P3 F15) ?_
 exact Ga K d8_178 ⟨rfl,_,_,_,_,_,_,_,_,rfl,hz1,hz2⟩
theorem own_aw_2_4_2 (hw : oHw a0 Z) {D0 D1 D3 D4 D5 D6 D7 D8 D9 D11 D12 D13 : oDsc} {g0 g1 g2 g3 t0 t1 : Int64} {rt : List Value} {y0 y1 : Int32} (hy0 : 1≤y0.toInt∧y0.toInt≤100000) (hy1 : 1≤y1.toInt∧y1.toInt≤100000) (hy0y1 : y0.toInt < y1.toInt) (hch : oCh [g0,g1,g2,g3]) (hne00 : g0.toInt ≠ y0.toInt * 4294967296 + 2) (hne01 : g0.toInt ≠ y1.toInt * 4294967296 + 2) (hne10 : g1.toInt ≠ y0.toInt * 4294967296 + 2) (hne11 : g1.toInt ≠ y1.toInt * 4294967296 + 2) (hne20 : g2.toInt ≠ y0.toInt * 4294967296 + 2) (hne21 : g2.toInt ≠ y1.toInt * 4294967296 + 2) (hne30 : g3.toInt ≠ y0.toInt * 4294967296 + 2) (hne31 : g3.toInt ≠ y1.toInt * 4294967296 + 2) :
  oCtr l Z h0 [] nM28 prog_6_method_3_code 9 (some .int) (oR 1 0 0 24) #[.ref b10,.int 4,.ref b2,.int 2] [(b0,D0),(b1,D1),(b2,.inl (.int,[.int y0,.int y1])),(b3,D3),(b4,D4),(b5,D5),(b6,D6),(b7,D7),(b8,D8),(b9,D9),(b10,.inl (.long,(.long g0)::(.long g1)::(.long g2)::(.long g3)::(.long t0)::(.long t1)::rt)),(b11,D11),(b12,D12),(b13,D13)] (oVal fun w d=>∃ (z0 z1 z2 z3 z4 z5 : Int64),w=.int 6∧d=[(b0,D0),(b1,D1),(b2,.inl (.int,[.int y0,.int y1])),(b3,D3),(b4,D4),(b5,D5),(b6,D6),(b7,D7),(b8,D8),(b9,D9),(b10,.inl (.long,(.long z0)::(.long z1)::(.long z2)::(.long z3)::(.long z4)::(.long z5)::rt)),(b11,D11),(b12,D12),(b13,D13)]∧oCh [z0,z1,z2,z3,z4,z5]∧∀ v : Int,(v=z0.toInt∨v=z1.toInt∨v=z2.toInt∨v=z3.toInt∨v=z4.toInt∨v=z5.toInt) ↔ ((v=g0.toInt∨v=g1.toInt∨v=g2.toInt∨v=g3.toInt)∨(v=y0.toInt * 4294967296 + 2∨v=y1.toInt * 4294967296 + 2))):=by
 refine oCo #[.val (.ref b10),.val (.int 4),.val (.ref b2),.val (.int 2),.unset,.unset,.unset,.unset,.unset] ?_
 intro p e s m below meth c K
 simp only [oCh,and_true] at hch
 refine Ye 1 K d11_0 <|Ya 2 K d11_1 <|Yf 2 2 3 K d11_2 ?_
 refine Ym 6 4 K d11_3 <|Yd 1 5 K d11_4 ?_
 refine Y4 5 6 K d11_5 ?_
 refine Yj 8 K d11_6 U4 <|Ye 9 K d11_8 <|Yd 1 10 K d11_9 ?_
 refine Y4 3 11 K d11_10 ?_
 refine Yj 13 K d11_11 U5 <|Ya 14 K d11_13 <|Yf 2 2 15 K d11_14 <|Yd 1 16 K d11_15 ?_
 refine Y4 1 17 K d11_16 ?_
 refine Yj 19 K d11_17 U6 <|Yb 21 K d11_19 ?_
 refine Yw 81 24 K d11_21 <|Ya 25 K d11_24 <|Yb 27 K d11_25 <|Yn 2 1 28 K d11_27 <|Ye 29 K d11_28 ?_
 refine Yk [.int y1,.int 2] [] 0 0 0 32 K (hw 88) (hw 89) (hw 86) (hw 90) (own_of @hw (by omega) (by decide)) (lenOf pd_2 rfl) d11_29 ?_
 rintro _ _ ⟨c1,rfl,tc1,rfl⟩
 simp only [Int32.reduceToInt] at tc1
 refine Gf #[.val (.ref b10),.val (.int 4),.val (.ref b2),.val (.int 2),.val (.int 5),.val (.int 3),.val (.int 1),.val (.long c1),.second] 34 K d11_32 <|Yb 36 K d11_34 ?_
 refine Yw 66 39 K d11_36 <|Ya 40 K d11_39 <|Yb 42 K d11_40 <|Yt 10 3 43 K d11_42 <|Yo 45 K d11_43 ?_
 obtain ⟨v45,ev45⟩:=oE (XT.cmpL g3 c1 : Int32)
 refine Y6 46 K d11_45 ev45 ?_
 refine Y2 66 49 K d11_46 (fun c46=>?_) (fun c46=>?_)
 ·rw [(oLcmp ev45).2.2] at c46
  refine Ya 67 K d11_66 <|Yb 69 K d11_67 ?_
  refine Yg 4 72 K d11_69 U4 <|Yo 74 K d11_72 ?_
  refine Yp 10 5 75 K d11_74 rfl oL5 (S10 T5) ?_
  refine Yg 0 78 K d11_75 U6 <|Yi 19 K d11_78 <|Yb 21 K d11_19 ?_
  refine Yw 81 24 K d11_21 <|Ya 25 K d11_24 <|Yb 27 K d11_25 <|Yn 2 0 28 K d11_27 <|Ye 29 K d11_28 ?_
  refine Yk [.int y0,.int 2] [] 0 0 0 32 K (hw 88) (hw 89) (hw 86) (hw 90) (own_of @hw (by omega) (by decide)) (lenOf pd_2 rfl) d11_29 ?_
  rintro _ _ ⟨c0,rfl,tc0,rfl⟩
  simp only [Int32.reduceToInt] at tc0
  refine Gf #[.val (.ref b10),.val (.int 4),.val (.ref b2),.val (.int 2),.val (.int 4),.val (.int 3),.val (.int 0),.val (.long c0),.second] 34 K d11_32 <|Yb 36 K d11_34 ?_
  refine Yw 66 39 K d11_36 <|Ya 40 K d11_39 <|Yb 42 K d11_40 <|Yt 10 3 43 K d11_42 <|Yo 45 K d11_43 ?_
  obtain ⟨v45_1,ev45_1⟩:=oE (XT.cmpL g3 c0 : Int32)
  refine Y6 46 K d11_45 ev45_1 ?_
  refine Y2 66 49 K d11_46 (fun c46_1=>?_) (fun c46_1=>?_)
  ·rw [(oLcmp ev45_1).2.2] at c46_1
   refine Ya 67 K d11_66 <|Yb 69 K d11_67 ?_
   refine Yg 3 72 K d11_69 U4 <|Yo 74 K d11_72 ?_
   refine Yp 10 4 75 K d11_74 rfl oL4 (S10 T4) ?_
   refine Yg (-1 : Int32) 78 K d11_75 U6 <|Yi 19 K d11_78 <|Yb 21 K d11_19 ?_
   refine Ys 81 24 K d11_21 <|Ye 82 K d11_81 <|Ya 83 K d11_82 <|Yf 2 2 84 K d11_83 ?_
   refine Ym 6 85 K d11_84 ?_
   exact Yq K d11_85 ⟨_,rfl,_,_,_,_,_,_,rfl,rfl,⟨by omega,by omega,by omega,by omega,by omega,trivial⟩,fun v=>by omega⟩
  rw [(oLcmp ev45_1).2.2] at c46_1
  refine Ya 50 K d11_49 <|Yb 52 K d11_50 ?_
  refine Yg 3 55 K d11_52 U4 <|Ya 56 K d11_55 <|Yb 58 K d11_56 ?_
  refine Yg 2 61 K d11_58 U5 <|Yt 10 3 62 K d11_61 ?_
  refine Yp 10 4 63 K d11_62 rfl oL4 (S10 T4) <|Yi 34 K d11_63 <|Yb 36 K d11_34 ?_
  refine Yw 66 39 K d11_36 <|Ya 40 K d11_39 <|Yb 42 K d11_40 <|Yt 10 2 43 K d11_42 <|Yo 45 K d11_43 ?_
  obtain ⟨v45_2,ev45_2⟩:=oE (XT.cmpL g2 c0 : Int32)
  refine Y6 46 K d11_45 ev45_2 ?_
  refine Y2 66 49 K d11_46 (fun c46_2=>?_) (fun c46_2=>?_)
  ·rw [(oLcmp ev45_2).2.2] at c46_2
   refine Ya 67 K d11_66 <|Yb 69 K d11_67 ?_
   refine Yg 2 72 K d11_69 U4 <|Yo 74 K d11_72 ?_
   refine Yp 10 3 75 K d11_74 rfl oL3 (S10 T3) ?_
   refine Yg (-1 : Int32) 78 K d11_75 U6 <|Yi 19 K d11_78 <|Yb 21 K d11_19 ?_
   refine Ys 81 24 K d11_21 <|Ye 82 K d11_81 <|Ya 83 K d11_82 <|Yf 2 2 84 K d11_83 ?_
   refine Ym 6 85 K d11_84 ?_
   exact Yq K d11_85 ⟨_,rfl,_,_,_,_,_,_,rfl,rfl,⟨by omega,by omega,by omega,by omega,by omega,trivial⟩,fun v=>by omega⟩
  rw [(oLcmp ev45_2).2.2] at c46_2
  refine Ya 50 K d11_49 <|Yb 52 K d11_50 ?_
  refine Yg 2 55 K d11_52 U4 <|Ya 56 K d11_55 <|Yb 58 K d11_56 ?_
  refine Yg 1 61 K d11_58 U5 <|Yt 10 2 62 K d11_61 ?_
  refine Yp 10 3 63 K d11_62 rfl oL3 (S10 T3) <|Yi 34 K d11_63 <|Yb 36 K d11_34 ?_
  refine Yw 66 39 K d11_36 <|Ya 40 K d11_39 <|Yb 42 K d11_40 <|Yt 10 1 43 K d11_42 <|Yo 45 K d11_43 ?_
  obtain ⟨v45_3,ev45_3⟩:=oE (XT.cmpL g1 c0 : Int32)
  refine Y6 46 K d11_45 ev45_3 ?_
  refine Y2 66 49 K d11_46 (fun c46_3=>?_) (fun c46_3=>?_)
  ·rw [(oLcmp ev45_3).2.2] at c46_3
   refine Ya 67 K d11_66 <|Yb 69 K d11_67 ?_
   refine Yg 1 72 K d11_69 U4 <|Yo 74 K d11_72 ?_
   refine Yp 10 2 75 K d11_74 rfl oL2 (S10 T2) ?_
   refine Yg (-1 : Int32) 78 K d11_75 U6 <|Yi 19 K d11_78 <|Yb 21 K d11_19 ?_
   refine Ys 81 24 K d11_21 <|Ye 82 K d11_81 <|Ya 83 K d11_82 <|Yf 2 2 84 K d11_83 ?_
   refine Ym 6 85 K d11_84 ?_
   exact Yq K d11_85 ⟨_,rfl,_,_,_,_,_,_,rfl,rfl,⟨by omega,by omega,by omega,by omega,by omega,trivial⟩,fun v=>by omega⟩
  rw [(oLcmp ev45_3).2.2] at c46_3
  refine Ya 50 K d11_49 <|Yb 52 K d11_50 ?_
  refine Yg 1 55 K d11_52 U4 <|Ya 56 K d11_55 <|Yb 58 K d11_56 ?_
  refine Yg 0 61 K d11_58 U5 <|Yt 10 1 62 K d11_61 ?_
  refine Yp 10 2 63 K d11_62 rfl oL2 (S10 T2) <|Yi 34 K d11_63 <|Yb 36 K d11_34 ?_
  refine Yw 66 39 K d11_36 <|Ya 40 K d11_39 <|Yb 42 K d11_40 <|Yt 10 0 43 K d11_42 <|Yo 45 K d11_43 ?_
  obtain ⟨v45_4,ev45_4⟩:=oE (XT.cmpL g0 c0 : Int32)
  refine Y6 46 K d11_45 ev45_4 ?_
  refine Y2 66 49 K d11_46 (fun c46_4=>?_) (fun c46_4=>?_)
  ·rw [(oLcmp ev45_4).2.2] at c46_4
   refine Ya 67 K d11_66 <|Yb 69 K d11_67 ?_
   refine Yg 0 72 K d11_69 U4 <|Yo 74 K d11_72 ?_
   refine Yp 10 1 75 K d11_74 rfl oL1 (S10 T1) ?_
   refine Yg (-1 : Int32) 78 K d11_75 U6 <|Yi 19 K d11_78 <|Yb 21 K d11_19 ?_
   refine Ys 81 24 K d11_21 <|Ye 82 K d11_81 <|Ya 83 K d11_82 <|Yf 2 2 84 K d11_83 ?_
   refine Ym 6 85 K d11_84 ?_
   exact Yq K d11_85 ⟨_,rfl,_,_,_,_,_,_,rfl,rfl,⟨by omega,by omega,by omega,by omega,by omega,trivial⟩,fun v=>by omega⟩
  rw [(oLcmp ev45_4).2.2] at c46_4
  refine Ya 50 K d11_49 <|Yb 52 K d11_50 ?_
  refine Yg 0 55 K d11_52 U4 <|Ya 56 K d11_55 <|Yb 58 K d11_56 ?_
  refine Yg (-1 : Int32) 61 K d11_58 U5 <|Yt 10 0 62 K d11_61 ?_
  refine Yp 10 1 63 K d11_62 rfl oL1 (S10 T1) <|Yi 34 K d11_63 <|Yb 36 K d11_34 ?_
  refine Ys 66 39 K d11_36 <|Ya 67 K d11_66 <|Yb 69 K d11_67 ?_
  refine Yg (-1 : Int32) 72 K d11_69 U4 <|Yo 74 K d11_72 ?_
  refine Yp 10 0 75 K d11_74 rfl oL0 (S10 T0) ?_
  refine Yg (-1 : Int32) 78 K d11_75 U6 <|Yi 19 K d11_78 <|Yb 21 K d11_19 ?_
  refine Ys 81 24 K d11_21 <|Ye 82 K d11_81 <|Ya 83 K d11_82 <|Yf 2 2 84 K d11_83 ?_
  refine Ym 6 85 K d11_84 ?_
  exact Yq K d11_85 ⟨_,rfl,_,_,_,_,_,_,rfl,rfl,⟨by omega,by omega,by omega,by omega,by omega,trivial⟩,fun v=>by omega⟩
 rw [(oLcmp ev45).2.2] at c46
 refine Ya 50 K d11_49 <|Yb 52 K d11_50 ?_
 refine Yg 4 55 K d11_52 U4 <|Ya 56 K d11_55 <|Yb 58 K d11_56 ?_
 refine Yg 2 61 K d11_58 U5 <|Yt 10 3 62 K d11_61 ?_
 refine Yp 10 5 63 K d11_62 rfl oL5 (S10 T5) <|Yi 34 K d11_63 <|Yb 36 K d11_34 ?_
 refine Yw 66 39 K d11_36 <|Ya 40 K d11_39 <|Yb 42 K d11_40 <|Yt 10 2 43 K d11_42 <|Yo 45 K d11_43 ?_
 obtain ⟨v45_1,ev45_1⟩:=oE (XT.cmpL g2 c1 : Int32)
 refine Y6 46 K d11_45 ev45_1 ?_
 refine Y2 66 49 K d11_46 (fun c46_1=>?_) (fun c46_1=>?_)
 ·rw [(oLcmp ev45_1).2.2] at c46_1
  refine Ya 67 K d11_66 <|Yb 69 K d11_67 ?_
  refine Yg 3 72 K d11_69 U4 <|Yo 74 K d11_72 ?_
  refine Yp 10 4 75 K d11_74 rfl oL4 (S10 T4) ?_
  refine Yg 0 78 K d11_75 U6 <|Yi 19 K d11_78 <|Yb 21 K d11_19 ?_
  refine Yw 81 24 K d11_21 <|Ya 25 K d11_24 <|Yb 27 K d11_25 <|Yn 2 0 28 K d11_27 <|Ye 29 K d11_28 ?_
  refine Yk [.int y0,.int 2] [] 0 0 0 32 K (hw 88) (hw 89) (hw 86) (hw 90) (own_of @hw (by omega) (by decide)) (lenOf pd_2 rfl) d11_29 ?_
  rintro _ _ ⟨c0,rfl,tc0,rfl⟩
  simp only [Int32.reduceToInt] at tc0
  refine Gf #[.val (.ref b10),.val (.int 4),.val (.ref b2),.val (.int 2),.val (.int 3),.val (.int 2),.val (.int 0),.val (.long c0),.second] 34 K d11_32 <|Yb 36 K d11_34 ?_
  refine Yw 66 39 K d11_36 <|Ya 40 K d11_39 <|Yb 42 K d11_40 <|Yt 10 2 43 K d11_42 <|Yo 45 K d11_43 ?_
  obtain ⟨v45_2,ev45_2⟩:=oE (XT.cmpL g2 c0 : Int32)
  refine Y6 46 K d11_45 ev45_2 ?_
  refine Y2 66 49 K d11_46 (fun c46_2=>?_) (fun c46_2=>?_)
  ·rw [(oLcmp ev45_2).2.2] at c46_2
   refine Ya 67 K d11_66 <|Yb 69 K d11_67 ?_
   refine Yg 2 72 K d11_69 U4 <|Yo 74 K d11_72 ?_
   refine Yp 10 3 75 K d11_74 rfl oL3 (S10 T3) ?_
   refine Yg (-1 : Int32) 78 K d11_75 U6 <|Yi 19 K d11_78 <|Yb 21 K d11_19 ?_
   refine Ys 81 24 K d11_21 <|Ye 82 K d11_81 <|Ya 83 K d11_82 <|Yf 2 2 84 K d11_83 ?_
   refine Ym 6 85 K d11_84 ?_
   exact Yq K d11_85 ⟨_,rfl,_,_,_,_,_,_,rfl,rfl,⟨by omega,by omega,by omega,by omega,by omega,trivial⟩,fun v=>by omega⟩
  rw [(oLcmp ev45_2).2.2] at c46_2
  refine Ya 50 K d11_49 <|Yb 52 K d11_50 ?_
  refine Yg 2 55 K d11_52 U4 <|Ya 56 K d11_55 <|Yb 58 K d11_56 ?_
  refine Yg 1 61 K d11_58 U5 <|Yt 10 2 62 K d11_61 ?_
  refine Yp 10 3 63 K d11_62 rfl oL3 (S10 T3) <|Yi 34 K d11_63 <|Yb 36 K d11_34 ?_
  refine Yw 66 39 K d11_36 <|Ya 40 K d11_39 <|Yb 42 K d11_40 <|Yt 10 1 43 K d11_42 <|Yo 45 K d11_43 ?_
  obtain ⟨v45_3,ev45_3⟩:=oE (XT.cmpL g1 c0 : Int32)
  refine Y6 46 K d11_45 ev45_3 ?_
  refine Y2 66 49 K d11_46 (fun c46_3=>?_) (fun c46_3=>?_)
  ·rw [(oLcmp ev45_3).2.2] at c46_3
   refine Ya 67 K d11_66 <|Yb 69 K d11_67 ?_
   refine Yg 1 72 K d11_69 U4 <|Yo 74 K d11_72 ?_
   refine Yp 10 2 75 K d11_74 rfl oL2 (S10 T2) ?_
   refine Yg (-1 : Int32) 78 K d11_75 U6 <|Yi 19 K d11_78 <|Yb 21 K d11_19 ?_
   refine Ys 81 24 K d11_21 <|Ye 82 K d11_81 <|Ya 83 K d11_82 <|Yf 2 2 84 K d11_83 ?_
   refine Ym 6 85 K d11_84 ?_
   exact Yq K d11_85 ⟨_,rfl,_,_,_,_,_,_,rfl,rfl,⟨by omega,by omega,by omega,by omega,by omega,trivial⟩,fun v=>by omega⟩
  rw [(oLcmp ev45_3).2.2] at c46_3
  refine Ya 50 K d11_49 <|Yb 52 K d11_50 ?_
  refine Yg 1 55 K d11_52 U4 <|Ya 56 K d11_55 <|Yb 58 K d11_56 ?_
  refine Yg 0 61 K d11_58 U5 <|Yt 10 1 62 K d11_61 ?_
  refine Yp 10 2 63 K d11_62 rfl oL2 (S10 T2) <|Yi 34 K d11_63 <|Yb 36 K d11_34 ?_
  refine Yw 66 39 K d11_36 <|Ya 40 K d11_39 <|Yb 42 K d11_40 <|Yt 10 0 43 K d11_42 <|Yo 45 K d11_43 ?_
  obtain ⟨v45_4,ev45_4⟩:=oE (XT.cmpL g0 c0 : Int32)
  refine Y6 46 K d11_45 ev45_4 ?_
  refine Y2 66 49 K d11_46 (fun c46_4=>?_) (fun c46_4=>?_)
  ·rw [(oLcmp ev45_4).2.2] at c46_4
   refine Ya 67 K d11_66 <|Yb 69 K d11_67 ?_
   refine Yg 0 72 K d11_69 U4 <|Yo 74 K d11_72 ?_
   refine Yp 10 1 75 K d11_74 rfl oL1 (S10 T1) ?_
   refine Yg (-1 : Int32) 78 K d11_75 U6 <|Yi 19 K d11_78 <|Yb 21 K d11_19 ?_
   refine Ys 81 24 K d11_21 <|Ye 82 K d11_81 <|Ya 83 K d11_82 <|Yf 2 2 84 K d11_83 ?_
   refine Ym 6 85 K d11_84 ?_
   exact Yq K d11_85 ⟨_,rfl,_,_,_,_,_,_,rfl,rfl,⟨by omega,by omega,by omega,by omega,by omega,trivial⟩,fun v=>by omega⟩
  rw [(oLcmp ev45_4).2.2] at c46_4
  refine Ya 50 K d11_49 <|Yb 52 K d11_50 ?_
  refine Yg 0 55 K d11_52 U4 <|Ya 56 K d11_55 <|Yb 58 K d11_56 ?_
  refine Yg (-1 : Int32) 61 K d11_58 U5 <|Yt 10 0 62 K d11_61 ?_
  refine Yp 10 1 63 K d11_62 rfl oL1 (S10 T1) <|Yi 34 K d11_63 <|Yb 36 K d11_34 ?_
  refine Ys 66 39 K d11_36 <|Ya 67 K d11_66 <|Yb 69 K d11_67 ?_
  refine Yg (-1 : Int32) 72 K d11_69 U4 <|Yo 74 K d11_72 ?_
  refine Yp 10 0 75 K d11_74 rfl oL0 (S10 T0) ?_
  refine Yg (-1 : Int32) 78 K d11_75 U6 <|Yi 19 K d11_78 <|Yb 21 K d11_19 ?_
  refine Ys 81 24 K d11_21 <|Ye 82 K d11_81 <|Ya 83 K d11_82 <|Yf 2 2 84 K d11_83 ?_
  refine Ym 6 85 K d11_84 ?_
  exact Yq K d11_85 ⟨_,rfl,_,_,_,_,_,_,rfl,rfl,⟨by omega,by omega,by omega,by omega,by omega,trivial⟩,fun v=>by omega⟩
 rw [(oLcmp ev45_1).2.2] at c46_1
 refine Ya 50 K d11_49 <|Yb 52 K d11_50 ?_
 refine Yg 3 55 K d11_52 U4 <|Ya 56 K d11_55 <|Yb 58 K d11_56 ?_
 refine Yg 1 61 K d11_58 U5 <|Yt 10 2 62 K d11_61 ?_
 refine Yp 10 4 63 K d11_62 rfl oL4 (S10 T4) <|Yi 34 K d11_63 <|Yb 36 K d11_34 ?_
 refine Yw 66 39 K d11_36 <|Ya 40 K d11_39 <|Yb 42 K d11_40 <|Yt 10 1 43 K d11_42 <|Yo 45 K d11_43 ?_
 obtain ⟨v45_2,ev45_2⟩:=oE (XT.cmpL g1 c1 : Int32)
 refine Y6 46 K d11_45 ev45_2 ?_
 refine Y2 66 49 K d11_46 (fun c46_2=>?_) (fun c46_2=>?_)
 ·rw [(oLcmp ev45_2).2.2] at c46_2
  refine Ya 67 K d11_66 <|Yb 69 K d11_67 ?_
  refine Yg 2 72 K d11_69 U4 <|Yo 74 K d11_72 ?_
  refine Yp 10 3 75 K d11_74 rfl oL3 (S10 T3) ?_
  refine Yg 0 78 K d11_75 U6 <|Yi 19 K d11_78 <|Yb 21 K d11_19 ?_
  refine Yw 81 24 K d11_21 <|Ya 25 K d11_24 <|Yb 27 K d11_25 <|Yn 2 0 28 K d11_27 <|Ye 29 K d11_28 ?_
  refine Yk [.int y0,.int 2] [] 0 0 0 32 K (hw 88) (hw 89) (hw 86) (hw 90) (own_of @hw (by omega) (by decide)) (lenOf pd_2 rfl) d11_29 ?_
  rintro _ _ ⟨c0,rfl,tc0,rfl⟩
  simp only [Int32.reduceToInt] at tc0
  refine Gf #[.val (.ref b10),.val (.int 4),.val (.ref b2),.val (.int 2),.val (.int 2),.val (.int 1),.val (.int 0),.val (.long c0),.second] 34 K d11_32 <|Yb 36 K d11_34 ?_
  refine Yw 66 39 K d11_36 <|Ya 40 K d11_39 <|Yb 42 K d11_40 <|Yt 10 1 43 K d11_42 <|Yo 45 K d11_43 ?_
  obtain ⟨v45_3,ev45_3⟩:=oE (XT.cmpL g1 c0 : Int32)
  refine Y6 46 K d11_45 ev45_3 ?_
  refine Y2 66 49 K d11_46 (fun c46_3=>?_) (fun c46_3=>?_)
  ·rw [(oLcmp ev45_3).2.2] at c46_3
   refine Ya 67 K d11_66 <|Yb 69 K d11_67 ?_
   refine Yg 1 72 K d11_69 U4 <|Yo 74 K d11_72 ?_
   refine Yp 10 2 75 K d11_74 rfl oL2 (S10 T2) ?_
   refine Yg (-1 : Int32) 78 K d11_75 U6 <|Yi 19 K d11_78 <|Yb 21 K d11_19 ?_
   refine Ys 81 24 K d11_21 <|Ye 82 K d11_81 <|Ya 83 K d11_82 <|Yf 2 2 84 K d11_83 ?_
   refine Ym 6 85 K d11_84 ?_
   exact Yq K d11_85 ⟨_,rfl,_,_,_,_,_,_,rfl,rfl,⟨by omega,by omega,by omega,by omega,by omega,trivial⟩,fun v=>by omega⟩
  rw [(oLcmp ev45_3).2.2] at c46_3
  refine Ya 50 K d11_49 <|Yb 52 K d11_50 ?_
  refine Yg 1 55 K d11_52 U4 <|Ya 56 K d11_55 <|Yb 58 K d11_56 ?_
  refine Yg 0 61 K d11_58 U5 <|Yt 10 1 62 K d11_61 ?_
  refine Yp 10 2 63 K d11_62 rfl oL2 (S10 T2) <|Yi 34 K d11_63 <|Yb 36 K d11_34 ?_
  refine Yw 66 39 K d11_36 <|Ya 40 K d11_39 <|Yb 42 K d11_40 <|Yt 10 0 43 K d11_42 <|Yo 45 K d11_43 ?_
  obtain ⟨v45_4,ev45_4⟩:=oE (XT.cmpL g0 c0 : Int32)
  refine Y6 46 K d11_45 ev45_4 ?_
  refine Y2 66 49 K d11_46 (fun c46_4=>?_) (fun c46_4=>?_)
  ·rw [(oLcmp ev45_4).2.2] at c46_4
   refine Ya 67 K d11_66 <|Yb 69 K d11_67 ?_
   refine Yg 0 72 K d11_69 U4 <|Yo 74 K d11_72 ?_
   refine Yp 10 1 75 K d11_74 rfl oL1 (S10 T1) ?_
   refine Yg (-1 : Int32) 78 K d11_75 U6 <|Yi 19 K d11_78 <|Yb 21 K d11_19 ?_
   refine Ys 81 24 K d11_21 <|Ye 82 K d11_81 <|Ya 83 K d11_82 <|Yf 2 2 84 K d11_83 ?_
   refine Ym 6 85 K d11_84 ?_
   exact Yq K d11_85 ⟨_,rfl,_,_,_,_,_,_,rfl,rfl,⟨by omega,by omega,by omega,by omega,by omega,trivial⟩,fun v=>by omega⟩
  rw [(oLcmp ev45_4).2.2] at c46_4
  refine Ya 50 K d11_49 <|Yb 52 K d11_50 ?_
  refine Yg 0 55 K d11_52 U4 <|Ya 56 K d11_55 <|Yb 58 K d11_56 ?_
  refine Yg (-1 : Int32) 61 K d11_58 U5 <|Yt 10 0 62 K d11_61 ?_
  refine Yp 10 1 63 K d11_62 rfl oL1 (S10 T1) <|Yi 34 K d11_63 <|Yb 36 K d11_34 ?_
  refine Ys 66 39 K d11_36 <|Ya 67 K d11_66 <|Yb 69 K d11_67 ?_
  refine Yg (-1 : Int32) 72 K d11_69 U4 <|Yo 74 K d11_72 ?_
  refine Yp 10 0 75 K d11_74 rfl oL0 (S10 T0) ?_
  refine Yg (-1 : Int32) 78 K d11_75 U6 <|Yi 19 K d11_78 <|Yb 21 K d11_19 ?_
  refine Ys 81 24 K d11_21 <|Ye 82 K d11_81 <|Ya 83 K d11_82 <|Yf 2 2 84 K d11_83 ?_
  refine Ym 6 85 K d11_84 ?_
  exact Yq K d11_85 ⟨_,rfl,_,_,_,_,_,_,rfl,rfl,⟨by omega,by omega,by omega,by omega,by omega,trivial⟩,fun v=>by omega⟩
 rw [(oLcmp ev45_2).2.2] at c46_2
 refine Ya 50 K d11_49 <|Yb 52 K d11_50 ?_
 refine Yg 2 55 K d11_52 U4 <|Ya 56 K d11_55 <|Yb 58 K d11_56 ?_
 refine Yg 0 61 K d11_58 U5 <|Yt 10 1 62 K d11_61 ?_
 refine Yp 10 3 63 K d11_62 rfl oL3 (S10 T3) <|Yi 34 K d11_63 <|Yb 36 K d11_34 ?_
 refine Yw 66 39 K d11_36 <|Ya 40 K d11_39 <|Yb 42 K d11_40 <|Yt 10 0 43 K d11_42 <|Yo 45 K d11_43 ?_
 obtain ⟨v45_3,ev45_3⟩:=oE (XT.cmpL g0 c1 : Int32)
 refine Y6 46 K d11_45 ev45_3 ?_
 refine Y2 66 49 K d11_46 (fun c46_3=>?_) (fun c46_3=>?_)
 ·rw [(oLcmp ev45_3).2.2] at c46_3
  refine Ya 67 K d11_66 <|Yb 69 K d11_67 ?_
  refine Yg 1 72 K d11_69 U4 <|Yo 74 K d11_72 ?_
  refine Yp 10 2 75 K d11_74 rfl oL2 (S10 T2) ?_
  refine Yg 0 78 K d11_75 U6 <|Yi 19 K d11_78 <|Yb 21 K d11_19 ?_
  refine Yw 81 24 K d11_21 <|Ya 25 K d11_24 <|Yb 27 K d11_25 <|Yn 2 0 28 K d11_27 <|Ye 29 K d11_28 ?_
  refine Yk [.int y0,.int 2] [] 0 0 0 32 K (hw 88) (hw 89) (hw 86) (hw 90) (own_of @hw (by omega) (by decide)) (lenOf pd_2 rfl) d11_29 ?_
  rintro _ _ ⟨c0,rfl,tc0,rfl⟩
  simp only [Int32.reduceToInt] at tc0
  refine Gf #[.val (.ref b10),.val (.int 4),.val (.ref b2),.val (.int 2),.val (.int 1),.val (.int 0),.val (.int 0),.val (.long c0),.second] 34 K d11_32 <|Yb 36 K d11_34 ?_
  refine Yw 66 39 K d11_36 <|Ya 40 K d11_39 <|Yb 42 K d11_40 <|Yt 10 0 43 K d11_42 <|Yo 45 K d11_43 ?_
  obtain ⟨v45_4,ev45_4⟩:=oE (XT.cmpL g0 c0 : Int32)
  refine Y6 46 K d11_45 ev45_4 ?_
  refine Y2 66 49 K d11_46 (fun c46_4=>?_) (fun c46_4=>?_)
  ·rw [(oLcmp ev45_4).2.2] at c46_4
   refine Ya 67 K d11_66 <|Yb 69 K d11_67 ?_
   refine Yg 0 72 K d11_69 U4 <|Yo 74 K d11_72 ?_
   refine Yp 10 1 75 K d11_74 rfl oL1 (S10 T1) ?_
   refine Yg (-1 : Int32) 78 K d11_75 U6 <|Yi 19 K d11_78 <|Yb 21 K d11_19 ?_
   refine Ys 81 24 K d11_21 <|Ye 82 K d11_81 <|Ya 83 K d11_82 <|Yf 2 2 84 K d11_83 ?_
   refine Ym 6 85 K d11_84 ?_
   exact Yq K d11_85 ⟨_,rfl,_,_,_,_,_,_,rfl,rfl,⟨by omega,by omega,by omega,by omega,by omega,trivial⟩,fun v=>by omega⟩
  rw [(oLcmp ev45_4).2.2] at c46_4
  refine Ya 50 K d11_49 <|Yb 52 K d11_50 ?_
  refine Yg 0 55 K d11_52 U4 <|Ya 56 K d11_55 <|Yb 58 K d11_56 ?_
  refine Yg (-1 : Int32) 61 K d11_58 U5 <|Yt 10 0 62 K d11_61 ?_
  refine Yp 10 1 63 K d11_62 rfl oL1 (S10 T1) <|Yi 34 K d11_63 <|Yb 36 K d11_34 ?_
  refine Ys 66 39 K d11_36 <|Ya 67 K d11_66 <|Yb 69 K d11_67 ?_
  refine Yg (-1 : Int32) 72 K d11_69 U4 <|Yo 74 K d11_72 ?_
  refine Yp 10 0 75 K d11_74 rfl oL0 (S10 T0) ?_
  refine Yg (-1 : Int32) 78 K d11_75 U6 <|Yi 19 K d11_78 <|Yb 21 K d11_19 ?_
  refine Ys 81 24 K d11_21 <|Ye 82 K d11_81 <|Ya 83 K d11_82 <|Yf 2 2 84 K d11_83 ?_
  refine Ym 6 85 K d11_84 ?_
  exact Yq K d11_85 ⟨_,rfl,_,_,_,_,_,_,rfl,rfl,⟨by omega,by omega,by omega,by omega,by omega,trivial⟩,fun v=>by omega⟩
 rw [(oLcmp ev45_3).2.2] at c46_3
 refine Ya 50 K d11_49 <|Yb 52 K d11_50 ?_
 refine Yg 1 55 K d11_52 U4 <|Ya 56 K d11_55 <|Yb 58 K d11_56 ?_
 refine Yg (-1 : Int32) 61 K d11_58 U5 <|Yt 10 0 62 K d11_61 ?_
 refine Yp 10 2 63 K d11_62 rfl oL2 (S10 T2) <|Yi 34 K d11_63 <|Yb 36 K d11_34 ?_
 refine Ys 66 39 K d11_36 <|Ya 67 K d11_66 <|Yb 69 K d11_67 ?_
 refine Yg 0 72 K d11_69 U4 <|Yo 74 K d11_72 ?_
 refine Yp 10 1 75 K d11_74 rfl oL1 (S10 T1) ?_
 refine Yg 0 78 K d11_75 U6 <|Yi 19 K d11_78 <|Yb 21 K d11_19 ?_
 refine Yw 81 24 K d11_21 <|Ya 25 K d11_24 <|Yb 27 K d11_25 <|Yn 2 0 28 K d11_27 <|Ye 29 K d11_28 ?_
 refine Yk [.int y0,.int 2] [] 0 0 0 32 K (hw 88) (hw 89) (hw 86) (hw 90) (own_of @hw (by omega) (by decide)) (lenOf pd_2 rfl) d11_29 ?_
 rintro _ _ ⟨c0,rfl,tc0,rfl⟩
 simp only [Int32.reduceToInt] at tc0
 refine Gf #[.val (.ref b10),.val (.int 4),.val (.ref b2),.val (.int 2),.val (.int 0),.val (.int (-1)),.val (.int 0),.val (.long c0),.second] 34 K d11_32 <|Yb 36 K d11_34 ?_
 refine Ys 66 39 K d11_36 <|Ya 67 K d11_66 <|Yb 69 K d11_67 ?_
 refine Yg (-1 : Int32) 72 K d11_69 U4 <|Yo 74 K d11_72 ?_
 refine Yp 10 0 75 K d11_74 rfl oL0 (S10 T0) ?_
 refine Yg (-1 : Int32) 78 K d11_75 U6 <|Yi 19 K d11_78 <|Yb 21 K d11_19 ?_
 refine Ys 81 24 K d11_21 <|Ye 82 K d11_81 <|Ya 83 K d11_82 <|Yf 2 2 84 K d11_83 ?_
 refine Ym 6 85 K d11_84 ?_
 exact Yq K d11_85 ⟨_,rfl,_,_,_,_,_,_,rfl,rfl,⟨by omega,by omega,by omega,by omega,by omega,trivial⟩,fun v=>by omega⟩
theorem own_add3_2_222 (hw : oHw a0 Z) {D0 D1 D9 D11 D12 D13 : oDsc} {f_dl f_wi f_cc f_rc f_hd f_ea : Value} {g0 g1 g2 g3 : Int64} {u0 u1 : Int32} (hu0 : 1≤u0.toInt∧u0.toInt≤100000) (hu1 : 1≤u1.toInt∧u1.toInt≤100000) (hu0u1 : u0.toInt < u1.toInt) (hch : oCh [g0,g1,g2,g3]) (hne00 : g0.toInt ≠ u0.toInt * 4294967296 + 2) (hne01 : g0.toInt ≠ u1.toInt * 4294967296 + 2) (hne10 : g1.toInt ≠ u0.toInt * 4294967296 + 2) (hne11 : g1.toInt ≠ u1.toInt * 4294967296 + 2) (hne20 : g2.toInt ≠ u0.toInt * 4294967296 + 2) (hne21 : g2.toInt ≠ u1.toInt * 4294967296 + 2) (hne30 : g3.toInt ≠ u0.toInt * 4294967296 + 2) (hne31 : g3.toInt ≠ u1.toInt * 4294967296 + 2) :
  oCtr l Z h0 [] nM29 prog_7_method_3_code 5 none (oR 2 3 24 90) #[.ref b3,.int 2,.ref b2] [(b0,D0),(b1,D1),(b2,.inl (.int,[.int u0,.int u1])),(b3,oP b10 b13 b11 b12 b4 b5 b6 b7 b8 b9 (.int 0) .null (.int 2) (.int 4) f_dl f_wi f_cc f_rc f_hd f_ea),(b4,.inl (.boolean,[.int 1,.int 1,.int 0])),(b5,.inl (.int,[.int 0,.int 1,.int 0])),(b6,.inl (.int,[.int 2147483647,.int 2147483647,.int 2147483647])),(b7,.inl (.int,[.int 0,.int 1,.int 0])),(b8,.inl (.array .int,[.null,.null,.null])),(b9,D9),(b10,.inl (.long,[.long g0,.long g1,.long g2,.long g3])),(b11,D11),(b12,D12),(b13,D13)] (oVoid fun d=>∃ (b10' b11' b12' : Addr) (z0 z1 z2 z3 z4 z5 : Int64),d=[(b0,D0),(b1,D1),(b2,.inl (.int,[.int u0,.int u1])),(b3,oP b10' b13 b11' b12' b4 b5 b6 b7 b8 b9 (.int 1) (.ref b2) (.int 3) (.int 6) f_dl (.int 0) f_cc f_rc f_hd f_ea),(b4,.inl (.boolean,[.int 1,.int 1,.int 1])),(b5,.inl (.int,[.int 0,.int 1,.int 2])),(b6,.inl (.int,[.int 2147483647,.int 2147483647,.int 0])),(b7,.inl (.int,[.int 2,.int 1,.int 0])),(b8,.inl (.array .int,[.ref b2,.null,.null])),(b9,D9),(b10',.inl (.long,[.long z0,.long z1,.long z2,.long z3,.long z4,.long z5,.long 0,.long 0])),(b11',.inl (.long,[.long 0,.long 0,.long 0,.long 0,.long 0,.long 0,.long 0,.long 0])),(b12',.inl (.int,[.int 0,.int 0,.int 0,.int 0,.int 0,.int 0,.int 0,.int 0])),(b13,D13)]∧oCh [z0,z1,z2,z3,z4,z5]∧∀ v : Int,(v=z0.toInt∨v=z1.toInt∨v=z2.toInt∨v=z3.toInt∨v=z4.toInt∨v=z5.toInt) ↔ ((v=g0.toInt∨v=g1.toInt∨v=g2.toInt∨v=g3.toInt)∨(v=u0.toInt * 4294967296 + 2∨v=u1.toInt * 4294967296 + 2))):=by
 refine oCo #[.val (.ref b3),.val (.int 2),.val (.ref b2),.unset,.unset] ?_
 intro p e s m below meth c K
 refine Ya 1 K d8_0 <|Yc 3 6 4 K (hw 32) d8_1 <|Ye 5 K d8_4 <|Ya 6 K d8_5 <|Yc 3 10 9 K (hw 57) d8_6 ?_
 refine Yr 6 2 10 K d8_9 rfl (S6 T2) <|Ya 11 K d8_10 <|Yc 3 7 14 K (hw 39) d8_11 <|Ya 15 K d8_14 <|Yc 3 10 18 K (hw 57) d8_15 <|Ye 19 K d8_18 ?_
 refine Yr 7 0 20 K d8_19 rfl (S7 T0) <|Ya 21 K d8_20 <|Yc 3 8 24 K (hw 43) d8_21 <|Ya 25 K d8_24 <|Yc 3 10 28 K (hw 57) d8_25 <|Ya 29 K d8_28 ?_
 refine Go 8 2 0 30 K d8_29 rfl (S8 T0) <|Ya 31 K d8_30 ?_
 refine Yv 32 K d8_31 <|Yc 3 10 35 K (hw 57) d8_32 <|Yd 1 36 K d8_35 ?_
 refine Ym 1 37 K d8_36 ?_
 refine Yl 3 10 .int 40 K (hw 57) (Or.inl (hw 58)) (hw 10) (oAp_0 @hw) d8_37 rfl rfl (P3 F10) <|Ya 41 K d8_40 <|Yc 3 4 44 K (hw 28) d8_41 <|Ye 45 K d8_44 <|Gn 4 2 46 K d8_45 ?_
 refine Gc 149 49 K d8_46 <|Ya 50 K d8_49 <|Yc 3 4 53 K (hw 28) d8_50 <|Ye 54 K d8_53 <|Yd 1 55 K d8_54 ?_
 refine Gy 4 2 (.int (1 : Int32)) 56 K d8_55 rfl (S4 T2) <|Ya 57 K d8_56 <|Yc 3 5 60 K (hw 30) d8_57 <|Ya 61 K d8_60 ?_
 refine Yv 62 K d8_61 <|Yc 3 12 65 K (hw 61) d8_62 ?_
 refine Gg 66 K d8_65 <|Yd 1 67 K d8_66 ?_
 refine Ym 3 68 K d8_67 ?_
 refine Yl 3 12 .int 71 K (hw 61) (Or.inl (hw 62)) (hw 10) (oAp_0 @hw) d8_68 rfl rfl (P3 F12) <|Ye 72 K d8_71 ?_
 refine Yr 5 2 73 K d8_72 rfl (S5 T2) <|Ya 74 K d8_73 <|Yc 3 13 77 K (hw 63) d8_74 <|Ya 78 K d8_77 <|Yf 2 2 79 K d8_78 ?_
 refine Ym 6 80 K d8_79 ?_
 refine Yz 81 K d8_80 U3 <|Ya 82 K d8_81 <|Yc 3 0 85 K (hw 19) d8_82 <|Yf 10 4 86 K d8_85 <|Ye 87 K d8_86 ?_
 refine Yy 132 90 K d8_87 <|Ye 91 K d8_90 <|Yd 2 92 K d8_91 <|Ya 93 K d8_92 <|Yc 3 0 96 K (hw 19) d8_93 <|Yf 10 4 97 K d8_96 ?_
 refine Gq 8 98 K d8_97 ?_
 refine Yk [.int 6,.int 8] [] 0 0 0 101 K (hw 73) (hw 6) (hw 7) (hw 8) (own_max @hw) (lenOf pd_9 rfl) d8_98 ?_
 rintro _ _ ⟨mz,rfl,hmz,rfl⟩
 obtain rfl : mz=(8 : Int32):=oEq32.mpr (hmz.trans (by decide))
 refine Yj 103 K d8_101 U4 <|Ya 104 K d8_103 <|Ya 105 K d8_104 <|Yc 3 0 108 K (hw 19) d8_105 <|Yb 110 K d8_108 ?_
 refine Yk [.ref b10,.int 8] [.ref b3] 1 1 8 113 K (hw 74) (hw 75) (hw 37) (hw 76) (own_copy_4_8 @hw) (lenOf pd_13 rfl) d8_110 ?_
 rintro _ _ ⟨b14,rfl,rfl⟩
 refine Yl 3 0 (.array .long) 116 K (hw 19) (Or.inl (hw 20)) (hw 10) (oAp_0 @hw) d8_113 rfl rfl (P3 F0) <|Ya 117 K d8_116 <|Yb 119 K d8_117 ?_
 refine Y3 8 2 16 121 K (hw 18) d8_119 (N15 (.inl (.long,[.long 0,.long 0,.long 0,.long 0,.long 0,.long 0,.long 0,.long 0]))) ?_
 intro a119 ha119
 refine Yl 3 2 (.array .long) 124 K (hw 23) (Or.inl (hw 24)) (hw 10) (oAp_0 @hw) d8_121 rfl rfl (P3 F2) <|Ya 125 K d8_124 <|Yb 127 K d8_125 ?_
 refine Y3 8 3 24 129 K (hw 4) d8_127 (N16 (.inl (.int,[.int 0,.int 0,.int 0,.int 0,.int 0,.int 0,.int 0,.int 0]))) ?_
 intro a127 ha127
 refine Yl 3 3 (.array .int) 132 K (hw 25) (Or.inl (hw 26)) (hw 10) (oAp_0 @hw) d8_129 rfl rfl (P3 F3) ?_
 refine oPk1 ?_
 refine Ya 133 K d8_132 <|Ya 134 K d8_133 <|Yc 3 0 137 K (hw 19) d8_134 <|Ya 138 K d8_137 <|Yc 3 13 141 K (hw 63) d8_138 <|Ya 142 K d8_141 <|Ye 143 K d8_142 ?_
 refine Yk [.ref b14,.int 4,.ref b2,.int 2] [.ref b3] 1 3 24 146 K (hw 84) (hw 85) (hw 86) (hw 87) (own_aw_2_4_2 @hw (by omega) (by omega) (by omega) hch hne00 hne01 hne10 hne11 hne20 hne21 hne30 hne31) (lenOf pd_14 rfl) d8_143 ?_
 rintro _ _ ⟨z0,z1,z2,z3,z4,z5,rfl,rfl,hz1,hz2⟩
 refine Yl 3 13 .int 149 K (hw 63) (Or.inl (hw 64)) (hw 10) (oAp_0 @hw) d8_146 rfl rfl (P3 F13) <|Ya 150 K d8_149 <|Yc 3 11 153 K (hw 59) d8_150 ?_
 refine Gw 168 K d8_153 <|Ya 169 K d8_168 <|Ya 170 K d8_169 ?_
 refine Yl 3 11 (.array .int) 173 K (hw 59) (Or.inl (hw 60)) (hw 10) (oAp_0 @hw) d8_170 rfl rfl (P3 F11) <|Ya 174 K d8_173 <|Yd 0 175 K d8_174 ?_
 refine Yl 3 15 .int 178 K (hw 91) (Or.inl (hw 92)) (hw 10) (oAp_0 @hw) d8_175 rfl rfl (P3 F15) ?_
 exact Ga K d8_178 ⟨rfl,_,_,_,_,_,_,_,_,_,rfl,hz1,hz2⟩
theorem own_widen2_22 (hw : oHw a0 Z) {D2 D4 D5 D6 D7 D9 D10 D11 D12 : oDsc} {f_mc f_cn f_dl f_cc f_rc f_hd f_ea : Value} {q2 : Value} {x0 x1 y0 y1 : Int32} (hx0 : 1≤x0.toInt∧x0.toInt≤100000) (hx1 : 1≤x1.toInt∧x1.toInt≤100000) (hy0 : 1≤y0.toInt∧y0.toInt≤100000) (hy1 : 1≤y1.toInt∧y1.toInt≤100000) (hx0x1 : x0.toInt < x1.toInt) (hy0y1 : y0.toInt < y1.toInt) :
  oCtr l Z h0 [] nM31 prog_7_method_7_code 3 none (oR 3 1 2 60) #[.ref b3] [(b0,.inl (.int,[.int x0,.int x1])),(b1,.inl (.int,[.int y0,.int y1])),(b2,D2),(b3,oP b10 b13 b11 b12 b4 b5 b6 b7 b8 b9 (.int 2) (.ref b0) f_mc f_cn f_dl (.int 0) f_cc f_rc f_hd f_ea),(b4,D4),(b5,D5),(b6,D6),(b7,D7),(b8,.inl (.array .int,[.ref b0,.ref b1,q2])),(b9,D9),(b10,D10),(b11,D11),(b12,D12),(b13,.inl (.int,[]))] (oVoid fun d=>∃ (b13' : Addr) (e0 e1 : Int32),d=[(b0,.inl (.int,[.int x0,.int x1])),(b1,.inl (.int,[.int y0,.int y1])),(b2,D2),(b3,oP b10 b13' b11 b12 b4 b5 b6 b7 b8 b9 (.int 2) (.ref b0) f_mc f_cn f_dl (.int 2) f_cc f_rc f_hd f_ea),(b4,D4),(b5,D5),(b6,D6),(b7,D7),(b8,.inl (.array .int,[.ref b0,.ref b1,q2])),(b9,D9),(b10,D10),(b11,D11),(b12,D12),(b13',.inl (.int,[.int e0,.int e1]))]):=by
 refine oCo #[.val (.ref b3),.unset,.unset] ?_
 intro p e s m below meth c K
 refine Ya 1 K d14_0 <|Yc 3 15 4 K (hw 91) d14_1 ?_
 refine Gc 45 7 K d14_4 <|Ya 8 K d14_7 <|Yc 3 1 11 K (hw 21) d14_8 <|Yf 13 0 12 K d14_11 <|Ya 13 K d14_12 <|Yc 3 11 16 K (hw 59) d14_13 <|Yf 0 2 17 K d14_16 ?_
 refine Yy 31 20 K d14_17 <|Ya 21 K d14_20 <|Ya 22 K d14_21 <|Yc 3 11 25 K (hw 59) d14_22 <|Yf 0 2 26 K d14_25 ?_
 refine Y3 2 1 2 28 K (hw 4) d14_26 (N14 (.inl (.int,[.int 0,.int 0]))) ?_
 intro a26 ha26
 refine Yl 3 1 (.array .int) 31 K (hw 21) (Or.inl (hw 22)) (hw 10) (oAp_0 @hw) d14_28 rfl rfl (P3 F1) ?_
 refine oPk2 ?_
 refine Ya 32 K d14_31 <|Yc 3 1 35 K (hw 21) d14_32 <|Yd 0 36 K d14_35 <|Ya 37 K d14_36 <|Yc 3 11 40 K (hw 59) d14_37 <|Yf 0 2 41 K d14_40 <|Yd 0 42 K d14_41 ?_
 refine Gu [.ref a26,.int 0,.int 2,.int 0] [] 0 1 2 45 K (hw 102) (hw 103) (hw 37) (hw 104) (own_fillF_2_2 @hw) (lenOf pd_16 rfl) d14_42 ?_
 rintro _ rfl
 refine Ya 46 K d14_45 <|Yc 3 15 49 K (hw 91) d14_46 <|Ya 50 K d14_49 <|Yc 3 10 53 K (hw 57) d14_50 ?_
 refine Yy 121 56 K d14_53 <|Ya 57 K d14_56 <|Yc 3 8 60 K (hw 43) d14_57 <|Ya 61 K d14_60 <|Yc 3 15 64 K (hw 91) d14_61 <|Gz 8 0 65 K d14_64 ?_
 refine Gl 66 K d14_65 U1 <|Yd 0 67 K d14_66 ?_
 refine Yz 68 K d14_67 U2 <|Ye 69 K d14_68 <|Ya 70 K d14_69 <|Yc 3 11 73 K (hw 59) d14_70 <|Yf 0 2 74 K d14_73 ?_
 refine Yy 108 77 K d14_74 <|Ya 78 K d14_77 <|Yc 3 1 81 K (hw 21) d14_78 <|Ye 82 K d14_81 <|Ya 83 K d14_82 <|Yc 3 1 86 K (hw 21) d14_83 <|Ye 87 K d14_86 <|Yn 13 0 88 K d14_87 <|Ya 89 K d14_88 <|Ya 90 K d14_89 <|Yc 3 11 93 K (hw 59) d14_90 <|Ye 94 K d14_93 ?_
 refine Yn 0 0 95 K d14_94 ?_
 refine Yk [.ref b0,.int x0] [.int 0,.int 0,.ref a26] 3 1 2 98 K (hw 108) (hw 109) (hw 11) (hw 110) (own_dist_2 @hw (ix:=0) rfl (by omega) (by omega) (by omega) (by omega)) (lenOf pd_8 rfl) d14_95 ?_
 rintro _ _ ⟨dz95,rfl,hdz95,rfl⟩
 refine Yk [.int 0,.int dz95] [.int 0,.ref a26] 2 1 2 101 K (hw 73) (hw 6) (hw 7) (hw 8) (own_max @hw) (lenOf pd_9 rfl) d14_98 ?_
 rintro _ _ ⟨mz98,rfl,hmz98,rfl⟩
 refine Yr 13 0 102 K d14_101 rfl (S13 T0) ?_
 refine Yg 1 105 K d14_102 U2 <|Yi 68 K d14_105 <|Ye 69 K d14_68 <|Ya 70 K d14_69 <|Yc 3 11 73 K (hw 59) d14_70 <|Yf 0 2 74 K d14_73 ?_
 refine Yy 108 77 K d14_74 <|Ya 78 K d14_77 <|Yc 3 1 81 K (hw 21) d14_78 <|Ye 82 K d14_81 <|Ya 83 K d14_82 <|Yc 3 1 86 K (hw 21) d14_83 <|Ye 87 K d14_86 <|Yn 13 1 88 K d14_87 <|Ya 89 K d14_88 <|Ya 90 K d14_89 <|Yc 3 11 93 K (hw 59) d14_90 <|Ye 94 K d14_93 ?_
 refine Yn 0 1 95 K d14_94 ?_
 refine Yk [.ref b0,.int x1] [.int 0,.int 1,.ref a26] 3 1 2 98 K (hw 108) (hw 109) (hw 11) (hw 110) (own_dist_2 @hw (ix:=0) rfl (by omega) (by omega) (by omega) (by omega)) (lenOf pd_8 rfl) d14_95 ?_
 rintro _ _ ⟨dz95_1,rfl,hdz95_1,rfl⟩
 refine Yk [.int 0,.int dz95_1] [.int 1,.ref a26] 2 1 2 101 K (hw 73) (hw 6) (hw 7) (hw 8) (own_max @hw) (lenOf pd_9 rfl) d14_98 ?_
 rintro _ _ ⟨mz98_1,rfl,hmz98_1,rfl⟩
 refine Yr 13 1 102 K d14_101 rfl (S13 T1) ?_
 refine Yg 2 105 K d14_102 U2 <|Yi 68 K d14_105 <|Ye 69 K d14_68 <|Ya 70 K d14_69 <|Yc 3 11 73 K (hw 59) d14_70 <|Yf 0 2 74 K d14_73 ?_
 refine Y8 108 77 K d14_74 <|Ya 109 K d14_108 ?_
 refine Yv 110 K d14_109 <|Yc 3 15 113 K (hw 91) d14_110 <|Yd 1 114 K d14_113 ?_
 refine Ym 1 115 K d14_114 ?_
 refine Yl 3 15 .int 118 K (hw 91) (Or.inl (hw 92)) (hw 10) (oAp_0 @hw) d14_115 rfl rfl (P3 F15) <|Yi 45 K d14_118 <|Ya 46 K d14_45 <|Yc 3 15 49 K (hw 91) d14_46 <|Ya 50 K d14_49 <|Yc 3 10 53 K (hw 57) d14_50 ?_
 refine Yy 121 56 K d14_53 <|Ya 57 K d14_56 <|Yc 3 8 60 K (hw 43) d14_57 <|Ya 61 K d14_60 <|Yc 3 15 64 K (hw 91) d14_61 <|Gz 8 1 65 K d14_64 ?_
 refine Gl 66 K d14_65 U1 <|Yd 0 67 K d14_66 ?_
 refine Yz 68 K d14_67 U2 <|Ye 69 K d14_68 <|Ya 70 K d14_69 <|Yc 3 11 73 K (hw 59) d14_70 <|Yf 0 2 74 K d14_73 ?_
 refine Yy 108 77 K d14_74 <|Ya 78 K d14_77 <|Yc 3 1 81 K (hw 21) d14_78 <|Ye 82 K d14_81 <|Ya 83 K d14_82 <|Yc 3 1 86 K (hw 21) d14_83 <|Ye 87 K d14_86 <|Yn 13 0 88 K d14_87 <|Ya 89 K d14_88 <|Ya 90 K d14_89 <|Yc 3 11 93 K (hw 59) d14_90 <|Ye 94 K d14_93 ?_
 refine Yn 0 0 95 K d14_94 ?_
 refine Yk [.ref b1,.int x0] [.int mz98,.int 0,.ref a26] 3 1 2 98 K (hw 108) (hw 109) (hw 11) (hw 110) (own_dist_2 @hw (ix:=1) rfl (by omega) (by omega) (by omega) (by omega)) (lenOf pd_8 rfl) d14_95 ?_
 rintro _ _ ⟨dz95_2,rfl,hdz95_2,rfl⟩
 refine Yk [.int mz98,.int dz95_2] [.int 0,.ref a26] 2 1 2 101 K (hw 73) (hw 6) (hw 7) (hw 8) (own_max @hw) (lenOf pd_9 rfl) d14_98 ?_
 rintro _ _ ⟨mz98_2,rfl,hmz98_2,rfl⟩
 refine Yr 13 0 102 K d14_101 rfl (S13 T0) ?_
 refine Yg 1 105 K d14_102 U2 <|Yi 68 K d14_105 <|Ye 69 K d14_68 <|Ya 70 K d14_69 <|Yc 3 11 73 K (hw 59) d14_70 <|Yf 0 2 74 K d14_73 ?_
 refine Yy 108 77 K d14_74 <|Ya 78 K d14_77 <|Yc 3 1 81 K (hw 21) d14_78 <|Ye 82 K d14_81 <|Ya 83 K d14_82 <|Yc 3 1 86 K (hw 21) d14_83 <|Ye 87 K d14_86 <|Yn 13 1 88 K d14_87 <|Ya 89 K d14_88 <|Ya 90 K d14_89 <|Yc 3 11 93 K (hw 59) d14_90 <|Ye 94 K d14_93 ?_
 refine Yn 0 1 95 K d14_94 ?_
 refine Yk [.ref b1,.int x1] [.int mz98_1,.int 1,.ref a26] 3 1 2 98 K (hw 108) (hw 109) (hw 11) (hw 110) (own_dist_2 @hw (ix:=1) rfl (by omega) (by omega) (by omega) (by omega)) (lenOf pd_8 rfl) d14_95 ?_
 rintro _ _ ⟨dz95_3,rfl,hdz95_3,rfl⟩
 refine Yk [.int mz98_1,.int dz95_3] [.int 1,.ref a26] 2 1 2 101 K (hw 73) (hw 6) (hw 7) (hw 8) (own_max @hw) (lenOf pd_9 rfl) d14_98 ?_
 rintro _ _ ⟨mz98_3,rfl,hmz98_3,rfl⟩
 refine Yr 13 1 102 K d14_101 rfl (S13 T1) ?_
 refine Yg 2 105 K d14_102 U2 <|Yi 68 K d14_105 <|Ye 69 K d14_68 <|Ya 70 K d14_69 <|Yc 3 11 73 K (hw 59) d14_70 <|Yf 0 2 74 K d14_73 ?_
 refine Y8 108 77 K d14_74 <|Ya 109 K d14_108 ?_
 refine Yv 110 K d14_109 <|Yc 3 15 113 K (hw 91) d14_110 <|Yd 1 114 K d14_113 ?_
 refine Ym 2 115 K d14_114 ?_
 refine Yl 3 15 .int 118 K (hw 91) (Or.inl (hw 92)) (hw 10) (oAp_0 @hw) d14_115 rfl rfl (P3 F15) <|Yi 45 K d14_118 <|Ya 46 K d14_45 <|Yc 3 15 49 K (hw 91) d14_46 <|Ya 50 K d14_49 <|Yc 3 10 53 K (hw 57) d14_50 ?_
 refine Y8 121 56 K d14_53 ?_
 exact Ga K d14_121 ⟨rfl,_,_,_,rfl⟩
theorem own_find2_22 (hw : oHw a0 Z) {D2 D4 D5 D7 : oDsc} {f_mc f_cc : Value} {q2 : Value} {x0 x1 y0 y1 dl : Int32} (hx0 : 1 ≤ x0.toInt ∧ x0.toInt ≤ 100000) (hx1 : 1 ≤ x1.toInt ∧ x1.toInt ≤ 100000) (hy0 : 1 ≤ y0.toInt ∧ y0.toInt ≤ 100000) (hy1 : 1 ≤ y1.toInt ∧ y1.toInt ≤ 100000) (hx0x1 : x0.toInt < x1.toInt) (hy0y1 : y0.toInt < y1.toInt) {ocs : List Int64} {cnt : Nat} {cn : Int32} (hcn : cn.toInt = (cnt : Int)) (hO : oEnt ocs cnt 2) (hs : oSrt ocs cnt) (hol : ocs.length ≤ 1000) {wv : UInt64} {iw : Int} (hSt : Sta Z h0 "java/lang/StrictMath" "$assertionsDisabled" "Z" (.int 1)) (hwh : oWh wv) (hwv : FP.Core.DInt iw wv) (hiw : 1 ≤ iw) (hiw2 : iw ≤ 1000) {rds : List Int64} {cvs : List Value} (hdl : 1 ≤ dl.toInt ∧ dl.toInt ≤ 100000) (hrl : cnt ≤ rds.length ∧ rds.length ≤ 1000) (hcv : 2 ≤ cvs.length ∧ cvs.length ≤ 1000) :
  oCtr l Z h0 [] nM32 prog_7_method_5_code 10 (some .int) (oR 6 1 2 124) #[.ref b3,.double wv] [(b0,.inl (.int,[.int x0,.int x1])),(b1,.inl (.int,[.int y0,.int y1])),(b2,D2),(b3,oP b10 b13 b11 b12 b4 b5 b6 b7 b8 b9 (.int 2) (.ref b0) f_mc (.int cn) (.int dl) (.int 0) f_cc (.int 0) (.int 0) (.int 0)),(b4,D4),(b5,D5),(b6,.inl (.int,[.int 0,.int 1,.int 2147483647])),(b7,D7),(b8,.inl (.array .int,[.ref b0,.ref b1,q2])),(b9,.inl (.int,[.int 0,.int 0,.int 0])),(b10,.inl (.long,(ocs.map Value.long))),(b11,.inl (.long,(rds.map Value.long))),(b12,.inl (.int,cvs)),(b13,.inl (.int,[]))] (oVal fun w d=>∃ (b13' : Addr) (e0 e1 : Int32) (rds' : List Int64) (cvs' : List Value) (cc' : Int32),w=.int cc'∧d=[(b0,.inl (.int,[.int x0,.int x1])),(b1,.inl (.int,[.int y0,.int y1])),(b2,D2),(b3,oP b10 b13' b11 b12 b4 b5 b6 b7 b8 b9 (.int 2) (.ref b0) f_mc (.int cn) (.int dl) (.int 2) (.int cc') (.int 0) (.int 0) (.int 0)),(b4,D4),(b5,D5),(b6,.inl (.int,[.int 0,.int 1,.int 2147483647])),(b7,D7),(b8,.inl (.array .int,[.ref b0,.ref b1,q2])),(b9,.inl (.int,[.int 0,.int 0,.int 0])),(b10,.inl (.long,(ocs.map Value.long))),(b11,.inl (.long,(rds'.map Value.long))),(b12,.inl (.int,cvs')),(b13',.inl (.int,[.int e0,.int e1]))]∧rds'.length=rds.length∧cvs'.length=cvs.length):=by
 refine oCo #[.val (.ref b3),.val (.double wv),.second,.unset,.unset,.unset,.unset,.unset,.unset,.unset] ?_
 intro p e s m below meth c K
 refine Ya 1 K d13_0 ?_
 refine Ge b3 nM12 [] [] 0 1 2 4 K (hw 98) (hw 100) (hw 50) (hw 99) (hw 101) (hw 11) (own_widen2_22 @hw (by omega) (by omega) (by omega) (by omega) (by omega) (by omega)) (lenOf pd_4 rfl) d13_1 ?_
 rintro _ ⟨b13',e0,e1,rfl⟩
 refine Y1 5 K d13_4 ?_
 refine oW.floorW (pc':=8) K @hw (hw 117) hSt hwh d13_5 rfl (by decide) (by decide) rfl ?_
 refine Ya 9 K d13_8 <|Yc 3 14 12 K (hw 65) d13_9 ?_
 obtain ⟨v12,ev12⟩:=oE (FP.i2d dl : UInt64)
 have dv12:=oI2D ev12
 refine Gh 13 K d13_12 ev12 ?_
 obtain ⟨md,emd⟩:=oE (Native.java_lang_Math.nans.pick64 false wv v12 : UInt64)
 have hmd : FP.Core.DInt (min iw dl.toInt) md:=by rw [emd]; exact oPick hwv dv12
 refine oW.minDW (pc':=16) K @hw (hw 140) (oNN hwv) (oNN dv12) emd d13_13 rfl (by decide) (by decide) (by decide) (by decide) rfl ?_
 obtain ⟨v16,ev16⟩:=oE (FP.d2i md : Int32)
 refine G3 17 K d13_16 ev16 ?_
 have tv16:=oD2I ev16 hmd (by omega)
 refine Yd 1 18 K d13_17 ?_
 obtain ⟨v18,ev18⟩:=oE (v16 - (1 : Int32) : Int32)
 refine Y9 19 K d13_18 ev18 ?_
 have tv18:=oIsub ev18 oOm
 try simp only [Int32.reduceToInt,Int64.reduceToInt] at tv18
 refine Yz 20 K d13_19 U3 <|Ya 21 K d13_20 <|Yd 0 22 K d13_21 ?_
 refine Yl 3 16 .int 25 K (hw 143) (Or.inl (hw 144)) (hw 10) (oAp_0 @hw) d13_22 rfl rfl (P3 F16) <|Yd 0 26 K d13_25 ?_
 refine Yj 28 K d13_26 U4 <|Yd 0 29 K d13_28 ?_
 refine Yj 31 K d13_29 U5 <|Yd 0 32 K d13_31 ?_
 refine Yj 34 K d13_32 U6 ?_
 refine oW.loop (F:=fun z : Int32 × Int32 × Int32 × Slot × Slot × Slot × Int32 × Int32 × Int32 × Int32 × Int32 × Int32 × Int32 × List Int64 × List Value=>∃ n' t : Nat,oRS z.2.2.2.2.2.2.2.2.2.2.2.2.2.1 n' z.2.2.2.2.2.2.2.1 z.2.2.2.2.2.2.2.2.2.1 z.2.2.2.2.2.2.2.2.2.2.1 z.2.2.2.2.2.2.2.2.2.2.2.1 z.2.2.2.2.2.2.2.2.2.2.2.2.1∧z.2.2.2.2.2.2.2.2.2.2.2.2.2.1.length=rds.length∧z.2.2.2.2.2.2.2.2.2.2.2.2.2.2.length=cvs.length∧n'≤t∧t≤cnt∧(∀ (i : Nat) (x : Int64),i < t→ocs[i]?=some x→x.toInt < (z.1.toInt + 1) * 4294967296)∧0≤z.1.toInt∧0≤z.2.2.1.toInt∧z.2.2.1.toInt≤2∧0≤z.2.2.2.2.2.2.1.toInt∧z.2.2.2.2.2.2.1.toInt≤z.2.2.1.toInt∧(z.2.2.1.toInt≤0→z.1.toInt≤x0.toInt + v18.toInt)∧(z.2.2.1.toInt≤1→z.1.toInt≤x1.toInt + v18.toInt)∧oDead z.2.2.2.1∧oDead z.2.2.2.2.1∧oDead z.2.2.2.2.2.1) (mu:=fun z=>2 - z.2.2.1.toInt.toNat) (pcj:=34) (Lf:=fun z=>#[.val (.ref b3),.val (.double wv),.second,.val (.int v18),.val (.int z.1),.val (.int z.2.1),.val (.int z.2.2.1),z.2.2.2.1,z.2.2.2.2.1,z.2.2.2.2.2.1]) (Sf:=fun z=>[]) (dsf:=fun z=>[(b0,.inl (.int,[.int x0,.int x1])),(b1,.inl (.int,[.int y0,.int y1])),(b2,D2),(b3,oP b10 b13' b11 b12 b4 b5 b6 b7 b8 b9 (.int 2) (.ref b0) f_mc (.int cn) (.int dl) (.int 2) (.int z.2.2.2.2.2.2.1) (.int z.2.2.2.2.2.2.2.1) (.int z.2.2.2.2.2.2.2.2.1) (.int z.2.2.2.2.2.2.2.2.2.1)),(b4,D4),(b5,D5),(b6,.inl (.int,[.int 0,.int 1,.int 2147483647])),(b7,D7),(b8,.inl (.array .int,[.ref b0,.ref b1,q2])),(b9,.inl (.int,[(.int z.2.2.2.2.2.2.2.2.2.2.1),(.int z.2.2.2.2.2.2.2.2.2.2.2.1),(.int z.2.2.2.2.2.2.2.2.2.2.2.2.1)])),(b10,.inl (.long,(ocs.map Value.long))),(b11,.inl (.long,(z.2.2.2.2.2.2.2.2.2.2.2.2.2.1.map Value.long))),(b12,.inl (.int,z.2.2.2.2.2.2.2.2.2.2.2.2.2.2)),(b13',.inl (.int,[.int e0,.int e1]))]) ?_ ((0 : Int32),(0 : Int32),(0 : Int32),(.unset : Slot),(.unset : Slot),(.unset : Slot),(0 : Int32),(0 : Int32),(0 : Int32),(0 : Int32),(0 : Int32),(0 : Int32),(0 : Int32),rds,cvs) (by dsimp only; have:=oTs; exact ⟨0,0,oRS.z,rfl,rfl,Nat.le_refl _,Nat.zero_le _,fun i x h=>absurd h (Nat.not_lt_zero _),by decide,by decide,by omega,by decide,by decide,fun _=>by omega,fun _=>by omega,Or.inl rfl,Or.inl rfl,Or.inl rfl⟩)
 rintro ⟨bq,la,ix,s1,s2,s3,ccL,rcL,hdL,eaL,k0L,k1L,k2L,rdsL,cvsL⟩ hF34 IH34
 dsimp only at hF34 IH34 ⊢
 obtain ⟨n',t,h1,h2,h3,ht1,ht2,h6,h7,h8,h9,h10,h11,ha0,ha1,f1,f2,f3⟩:=hF34
 refine Yb 36 K d13_34 <|Ya 37 K d13_36 <|Yc 3 11 40 K (hw 59) d13_37 <|Yf 0 2 41 K d13_40 ?_
 refine Gm 139 44 K d13_41 (fun c41=>?_) (fun c41=>?_)
 ·simp only [oLt32,oEq32,Int32.reduceToInt] at c41
  refine Ya 140 K d13_139 ?_
  refine Ge b3 nM12 [] [] 0 1 2 143 K (hw 145) (hw 147) (hw 50) (hw 146) (hw 148) (hw 11) (own_restart @hw (n:=n') h1.1 (by omega) h1.2.2.2.1 h1.2.2.2.2.1 h1.2.2.2.2.2.1 h1.2.2.2.2.2.2) (lenOf pd_4 rfl) d13_140 ?_
  rintro _ rfl
  refine Ya 144 K d13_143 <|Yc 3 16 147 K (hw 143) d13_144 ?_
  exact Yq K d13_147 ⟨_,rfl,_,_,_,_,_,_,rfl,rfl,h2,h3⟩
 simp only [oLt32,oEq32,Int32.reduceToInt] at c41
 have hix : ix=0∨ix=1:=by simp only [oEq32,Int32.reduceToInt]; omega
 rcases hix with hix|hix
 ·subst hix
  simp only [Int32.reduceToInt] at h8 h9 h10 h11 ha0 ha1
  refine Ya 45 K d13_44 <|Yc 3 11 48 K (hw 59) d13_45 <|Yb 50 K d13_48 <|Yn 0 0 51 K d13_50 ?_
  refine oW.istore (Ls':=#[.val (.ref b3),.val (.double wv),.second,.val (.int v18),.val (.int bq),.val (.int la),.val (.int 0),.val (.int x0),s2,s3]) (pc':=53) K d13_51 (oStoreDead rfl f1 rfl) rfl ?_
  refine Ya 54 K d13_53 <|Yc 3 1 57 K (hw 21) d13_54 <|Yb 59 K d13_57 <|Yn 13 0 60 K d13_59 <|Yd 1 61 K d13_60 ?_
  obtain ⟨v61,ev61⟩:=oE (e0 + (1 : Int32) : Int32)
  refine Y0 62 K d13_61 ev61 ?_
  obtain ⟨v62,ev62⟩:=oE (FP.i2d v61 : UInt64)
  have dv62:=oI2D ev62
  refine Gh 63 K d13_62 ev62 <|Y1 64 K d13_63 ?_
  obtain ⟨v64,ev64⟩:=oE (cmpValue (FP.dcmp v62 wv) .l : Int32)
  refine Gi 65 K d13_64 ev64 ?_
  refine Hg 133 68 K d13_65 (fun c65=>?_) (fun c65=>?_)
  ·refine Yg 1 136 K d13_133 U6 <|Yi 34 K d13_136 ?_
   exact IH34 (bq,la,(1 : Int32),(.val (.int x0) : Slot),(s2 : Slot),(s3 : Slot),ccL,rcL,hdL,eaL,k0L,k1L,k2L,rdsL,cvsL) (by dsimp only; have:=oTs; exact ⟨n',t,h1,h2,h3,ht1,ht2,h6,by omega,by omega,by omega,by omega,by omega,fun _=>by omega,fun _=>by omega,Or.inr ⟨_,rfl⟩,f2,f3⟩) (by dsimp only; have:=oTs; omega)
  refine Yb 70 K d13_68 <|Yb 72 K d13_70 ?_
  refine Hd 78 75 K d13_72 (fun c72=>?_) (fun c72=>?_)
  ·simp only [oLt32,oEq32,Int32.reduceToInt] at c72
   refine Yb 80 K d13_78 ?_
   obtain ⟨v80,ev80⟩:=oE (x0.toInt64 : Int64)
   refine Gd 81 K d13_80 ev80 ?_
   have tv80 : v80.toInt=_:=oI2L ev80
   refine Ye 82 K d13_81 ?_
   obtain ⟨v82,ev82⟩:=oE (v18.toInt64 : Int64)
   refine Gd 83 K d13_82 ev82 ?_
   have tv82 : v82.toInt=_:=oI2L ev82
   obtain ⟨v83,ev83⟩:=oE (v80 + v82 : Int64)
   refine Gv 84 K d13_83 ev83 ?_
   have tv83:=oLadd ev83 oOm
   try simp only [Int32.reduceToInt,Int64.reduceToInt] at tv83
   refine Gx 87 K (hw 156) d13_84 ?_
   refine Yk [.long v83,.long 2147483647] [] 0 1 2 90 K (hw 157) (hw 158) (hw 7) (hw 159) (own_minJ @hw) (lenOf pd_17 rfl) d13_87 ?_
   rintro _ _ ⟨mj87,rfl,tmj87,rfl⟩
   rw [show (2147483647 : Int64).toInt=2147483647 by decide] at tmj87
   obtain ⟨v90,ev90⟩:=oE (mj87.toInt32 : Int32)
   refine Gs 91 K d13_90 ev90 ?_
   have tv90:=oL2I ev90 (by omega)
   refine oW.istore (Ls':=#[.val (.ref b3),.val (.double wv),.second,.val (.int v18),.val (.int bq),.val (.int la),.val (.int 0),.val (.int x0),.val (.int v90),s3]) (pc':=93) K d13_91 (oStoreDead rfl f2 rfl) rfl ?_
   refine Ya 94 K d13_93 <|Yb 96 K d13_94 <|Yd 1 97 K d13_96 ?_
   obtain ⟨v97,ev97⟩:=oE (bq + (1 : Int32) : Int32)
   refine Y0 98 K d13_97 ev97 ?_
   have tv97:=oIadd ev97 oOm
   try simp only [Int32.reduceToInt,Int64.reduceToInt] at tv97
   refine Yb 100 K d13_98 <|Ye 101 K d13_100 ?_
   obtain ⟨v101,ev101⟩:=oE (x0 - v18 : Int32)
   refine Y9 102 K d13_101 ev101 ?_
   have tv101:=oIsub ev101 oOm
   try simp only [Int32.reduceToInt,Int64.reduceToInt] at tv101
   refine Yk [.int v97,.int v101] [.ref b3] 1 1 2 105 K (hw 73) (hw 6) (hw 7) (hw 8) (own_max @hw) (lenOf pd_9 rfl) d13_102 ?_
   rintro _ _ ⟨lo102,rfl,tlo102,rfl⟩
   try simp only [Int32.reduceToInt] at tlo102
   refine Yb 107 K d13_105 <|Y1 108 K d13_107 ?_
   refine Gk b3 nM12 [.int lo102,.int v90,.double wv] [] 0 1 2 111 K (hw 160) (hw 162) (hw 50) (hw 161) (hw 163) (hw 11) (own_rrG @hw hcn hO hs hol h1 ⟨by omega,by omega⟩ ⟨by omega,by omega,by omega⟩ (by omega) (by omega) (by omega) ⟨t,ht1,ht2,fun i x h q=>by have:=h6 i x h q; omega⟩) (lenOf pd_18 rfl) d13_108 ?_
   rintro _ _ ⟨rds',cvs',rc',hd',ea',cc',k0',k1',k2',z,n2,rfl,rfl,hl1,hl2,hrs',hcase⟩
   rcases hcase with ⟨hz,hce,t2,ht1',ht2',ht3'⟩|⟨hz1,hz2,hce,hn2⟩
   ·subst hz
    subst hce
    refine oW.istore (Ls':=#[.val (.ref b3),.val (.double wv),.second,.val (.int v18),.val (.int bq),.val (.int la),.val (.int 0),.val (.int x0),.val (.int v90),.val (.int 0)]) (pc':=113) K d13_111 (oStoreDead rfl f3 rfl) rfl ?_
    refine Yb 115 K d13_113 ?_
    refine Gc 125 118 K d13_115 <|Yb 120 K d13_118 ?_
    refine Yj 122 K d13_120 U4 <|Yi 133 K d13_122 ?_
    refine Yg 1 136 K d13_133 U6 <|Yi 34 K d13_136 ?_
    exact IH34 (v90,la,(1 : Int32),(.val (.int x0) : Slot),(.val (.int v90) : Slot),(.val (.int 0) : Slot),ccL,rc',hd',ea',k0',k1',k2',rds',cvs') (by dsimp only; have:=oTs; exact ⟨n2,t2,hrs',hl1.trans h2,hl2.trans h3,ht1',ht2',ht3',by omega,by omega,by omega,by omega,by omega,fun _=>by omega,fun _=>by omega,Or.inr ⟨_,rfl⟩,Or.inr ⟨_,rfl⟩,Or.inr ⟨_,rfl⟩⟩) (by dsimp only; have:=oTs; omega)
   refine oW.istore (Ls':=#[.val (.ref b3),.val (.double wv),.second,.val (.int v18),.val (.int bq),.val (.int la),.val (.int 0),.val (.int x0),.val (.int v90),.val (.int z)]) (pc':=113) K d13_111 (oStoreDead rfl f3 rfl) rfl ?_
   refine Yb 115 K d13_113 ?_
   refine oW.if_ne (pc':=125) (pc3:=118) K d13_115 (by decide) (by decide) rfl (fun c115=>?_) (fun q=>(by simp only [oLt32,oEq32,Int32.reduceToInt] at q; omega))
   refine Yb 127 K d13_125 ?_
   refine Yj 129 K d13_127 U4 <|Yb 131 K d13_129 ?_
   refine Yj 133 K d13_131 U5 ?_
   refine Yg 1 136 K d13_133 U6 <|Yi 34 K d13_136 ?_
   exact IH34 (z,z,(1 : Int32),(.val (.int x0) : Slot),(.val (.int v90) : Slot),(.val (.int z) : Slot),cc',rc',hd',ea',k0',k1',k2',rds',cvs') (by dsimp only; have:=oTs; exact ⟨n2,0,hrs',hl1.trans h2,hl2.trans h3,by omega,Nat.zero_le _,fun i x h=>absurd h (Nat.not_lt_zero _),by omega,by omega,by omega,by omega,by omega,fun _=>by omega,fun _=>by omega,Or.inr ⟨_,rfl⟩,Or.inr ⟨_,rfl⟩,Or.inr ⟨_,rfl⟩⟩) (by dsimp only; have:=oTs; omega)
  simp only [oLt32,oEq32,Int32.reduceToInt] at c72
  refine Yi 133 K d13_75 ?_
  refine Yg 1 136 K d13_133 U6 <|Yi 34 K d13_136 ?_
  exact IH34 (bq,la,(1 : Int32),(.val (.int x0) : Slot),(s2 : Slot),(s3 : Slot),ccL,rcL,hdL,eaL,k0L,k1L,k2L,rdsL,cvsL) (by dsimp only; have:=oTs; exact ⟨n',t,h1,h2,h3,ht1,ht2,h6,by omega,by omega,by omega,by omega,by omega,fun _=>by omega,fun _=>by omega,Or.inr ⟨_,rfl⟩,f2,f3⟩) (by dsimp only; have:=oTs; omega)
 subst hix
 simp only [Int32.reduceToInt] at h8 h9 h10 h11 ha0 ha1
 refine Ya 45 K d13_44 <|Yc 3 11 48 K (hw 59) d13_45 <|Yb 50 K d13_48 <|Yn 0 1 51 K d13_50 ?_
 refine oW.istore (Ls':=#[.val (.ref b3),.val (.double wv),.second,.val (.int v18),.val (.int bq),.val (.int la),.val (.int 1),.val (.int x1),s2,s3]) (pc':=53) K d13_51 (oStoreDead rfl f1 rfl) rfl ?_
 refine Ya 54 K d13_53 <|Yc 3 1 57 K (hw 21) d13_54 <|Yb 59 K d13_57 <|Yn 13 1 60 K d13_59 <|Yd 1 61 K d13_60 ?_
 obtain ⟨v61,ev61⟩:=oE (e1 + (1 : Int32) : Int32)
 refine Y0 62 K d13_61 ev61 ?_
 obtain ⟨v62,ev62⟩:=oE (FP.i2d v61 : UInt64)
 have dv62:=oI2D ev62
 refine Gh 63 K d13_62 ev62 <|Y1 64 K d13_63 ?_
 obtain ⟨v64,ev64⟩:=oE (cmpValue (FP.dcmp v62 wv) .l : Int32)
 refine Gi 65 K d13_64 ev64 ?_
 refine Hg 133 68 K d13_65 (fun c65=>?_) (fun c65=>?_)
 ·refine Yg 2 136 K d13_133 U6 <|Yi 34 K d13_136 ?_
  exact IH34 (bq,la,(2 : Int32),(.val (.int x1) : Slot),(s2 : Slot),(s3 : Slot),ccL,rcL,hdL,eaL,k0L,k1L,k2L,rdsL,cvsL) (by dsimp only; have:=oTs; exact ⟨n',t,h1,h2,h3,ht1,ht2,h6,by omega,by omega,by omega,by omega,by omega,fun _=>by omega,fun _=>by omega,Or.inr ⟨_,rfl⟩,f2,f3⟩) (by dsimp only; have:=oTs; omega)
 refine Yb 70 K d13_68 <|Yb 72 K d13_70 ?_
 refine Hd 78 75 K d13_72 (fun c72=>?_) (fun c72=>?_)
 ·simp only [oLt32,oEq32,Int32.reduceToInt] at c72
  refine Yb 80 K d13_78 ?_
  obtain ⟨v80,ev80⟩:=oE (x1.toInt64 : Int64)
  refine Gd 81 K d13_80 ev80 ?_
  have tv80 : v80.toInt=_:=oI2L ev80
  refine Ye 82 K d13_81 ?_
  obtain ⟨v82,ev82⟩:=oE (v18.toInt64 : Int64)
  refine Gd 83 K d13_82 ev82 ?_
  have tv82 : v82.toInt=_:=oI2L ev82
  obtain ⟨v83,ev83⟩:=oE (v80 + v82 : Int64)
  refine Gv 84 K d13_83 ev83 ?_
  have tv83:=oLadd ev83 oOm
  try simp only [Int32.reduceToInt,Int64.reduceToInt] at tv83
  refine Gx 87 K (hw 156) d13_84 ?_
  refine Yk [.long v83,.long 2147483647] [] 0 1 2 90 K (hw 157) (hw 158) (hw 7) (hw 159) (own_minJ @hw) (lenOf pd_17 rfl) d13_87 ?_
  rintro _ _ ⟨mj87,rfl,tmj87,rfl⟩
  rw [show (2147483647 : Int64).toInt=2147483647 by decide] at tmj87
  obtain ⟨v90,ev90⟩:=oE (mj87.toInt32 : Int32)
  refine Gs 91 K d13_90 ev90 ?_
  have tv90:=oL2I ev90 (by omega)
  refine oW.istore (Ls':=#[.val (.ref b3),.val (.double wv),.second,.val (.int v18),.val (.int bq),.val (.int la),.val (.int 1),.val (.int x1),.val (.int v90),s3]) (pc':=93) K d13_91 (oStoreDead rfl f2 rfl) rfl ?_
  refine Ya 94 K d13_93 <|Yb 96 K d13_94 <|Yd 1 97 K d13_96 ?_
  obtain ⟨v97,ev97⟩:=oE (bq + (1 : Int32) : Int32)
  refine Y0 98 K d13_97 ev97 ?_
  have tv97:=oIadd ev97 oOm
  try simp only [Int32.reduceToInt,Int64.reduceToInt] at tv97
  refine Yb 100 K d13_98 <|Ye 101 K d13_100 ?_
  obtain ⟨v101,ev101⟩:=oE (x1 - v18 : Int32)
  refine Y9 102 K d13_101 ev101 ?_
  have tv101:=oIsub ev101 oOm
  try simp only [Int32.reduceToInt,Int64.reduceToInt] at tv101
  refine Yk [.int v97,.int v101] [.ref b3] 1 1 2 105 K (hw 73) (hw 6) (hw 7) (hw 8) (own_max @hw) (lenOf pd_9 rfl) d13_102 ?_
  rintro _ _ ⟨lo102,rfl,tlo102,rfl⟩
  try simp only [Int32.reduceToInt] at tlo102
  refine Yb 107 K d13_105 <|Y1 108 K d13_107 ?_
  refine Gk b3 nM12 [.int lo102,.int v90,.double wv] [] 0 1 2 111 K (hw 160) (hw 162) (hw 50) (hw 161) (hw 163) (hw 11) (own_rrG @hw hcn hO hs hol h1 ⟨by omega,by omega⟩ ⟨by omega,by omega,by omega⟩ (by omega) (by omega) (by omega) ⟨t,ht1,ht2,fun i x h q=>by have:=h6 i x h q; omega⟩) (lenOf pd_18 rfl) d13_108 ?_
  rintro _ _ ⟨rds',cvs',rc',hd',ea',cc',k0',k1',k2',z,n2,rfl,rfl,hl1,hl2,hrs',hcase⟩
  rcases hcase with ⟨hz,hce,t2,ht1',ht2',ht3'⟩|⟨hz1,hz2,hce,hn2⟩
  ·subst hz
   subst hce
   refine oW.istore (Ls':=#[.val (.ref b3),.val (.double wv),.second,.val (.int v18),.val (.int bq),.val (.int la),.val (.int 1),.val (.int x1),.val (.int v90),.val (.int 0)]) (pc':=113) K d13_111 (oStoreDead rfl f3 rfl) rfl ?_
   refine Yb 115 K d13_113 ?_
   refine Gc 125 118 K d13_115 <|Yb 120 K d13_118 ?_
   refine Yj 122 K d13_120 U4 <|Yi 133 K d13_122 ?_
   refine Yg 2 136 K d13_133 U6 <|Yi 34 K d13_136 ?_
   exact IH34 (v90,la,(2 : Int32),(.val (.int x1) : Slot),(.val (.int v90) : Slot),(.val (.int 0) : Slot),ccL,rc',hd',ea',k0',k1',k2',rds',cvs') (by dsimp only; have:=oTs; exact ⟨n2,t2,hrs',hl1.trans h2,hl2.trans h3,ht1',ht2',ht3',by omega,by omega,by omega,by omega,by omega,fun _=>by omega,fun _=>by omega,Or.inr ⟨_,rfl⟩,Or.inr ⟨_,rfl⟩,Or.inr ⟨_,rfl⟩⟩) (by dsimp only; have:=oTs; omega)
  refine oW.istore (Ls':=#[.val (.ref b3),.val (.double wv),.second,.val (.int v18),.val (.int bq),.val (.int la),.val (.int 1),.val (.int x1),.val (.int v90),.val (.int z)]) (pc':=113) K d13_111 (oStoreDead rfl f3 rfl) rfl ?_
  refine Yb 115 K d13_113 ?_
  refine oW.if_ne (pc':=125) (pc3:=118) K d13_115 (by decide) (by decide) rfl (fun c115=>?_) (fun q=>(by simp only [oLt32,oEq32,Int32.reduceToInt] at q; omega))
  refine Yb 127 K d13_125 ?_
  refine Yj 129 K d13_127 U4 <|Yb 131 K d13_129 ?_
  refine Yj 133 K d13_131 U5 ?_
  refine Yg 2 136 K d13_133 U6 <|Yi 34 K d13_136 ?_
  exact IH34 (z,z,(2 : Int32),(.val (.int x1) : Slot),(.val (.int v90) : Slot),(.val (.int z) : Slot),cc',rc',hd',ea',k0',k1',k2',rds',cvs') (by dsimp only; have:=oTs; exact ⟨n2,0,hrs',hl1.trans h2,hl2.trans h3,by omega,Nat.zero_le _,fun i x h=>absurd h (Nat.not_lt_zero _),by omega,by omega,by omega,by omega,by omega,fun _=>by omega,fun _=>by omega,Or.inr ⟨_,rfl⟩,Or.inr ⟨_,rfl⟩,Or.inr ⟨_,rfl⟩⟩) (by dsimp only; have:=oTs; omega)
 simp only [oLt32,oEq32,Int32.reduceToInt] at c72
 refine Yi 133 K d13_75 ?_
 refine Yg 2 136 K d13_133 U6 <|Yi 34 K d13_136 ?_
 exact IH34 (bq,la,(2 : Int32),(.val (.int x1) : Slot),(s2 : Slot),(s3 : Slot),ccL,rcL,hdL,eaL,k0L,k1L,k2L,rdsL,cvsL) (by dsimp only; have:=oTs; exact ⟨n',t,h1,h2,h3,ht1,ht2,h6,by omega,by omega,by omega,by omega,by omega,fun _=>by omega,fun _=>by omega,Or.inr ⟨_,rfl⟩,f2,f3⟩) (by dsimp only; have:=oTs; omega)
theorem own_widen1_2_2 (hw : oHw a0 Z) {D1 D2 D4 D5 D6 D7 D9 D10 D11 D12 : oDsc} {f_mc f_cn f_dl f_cc f_rc f_hd f_ea : Value} {q1 q2 : Value} {y0 y1 e0 e1 : Int32} (hy0 : 1≤y0.toInt∧y0.toInt≤100000) (hy1 : 1≤y1.toInt∧y1.toInt≤100000) (hy0y1 : y0.toInt < y1.toInt) :
  oCtr l Z h0 [] nM31 prog_7_method_7_code 3 none (oR 3 1 2 60) #[.ref b3] [(b0,.inl (.int,[.int y0,.int y1])),(b1,D1),(b2,D2),(b3,oP b10 b13 b11 b12 b4 b5 b6 b7 b8 b9 (.int 1) (.ref b0) f_mc f_cn f_dl (.int 0) f_cc f_rc f_hd f_ea),(b4,D4),(b5,D5),(b6,D6),(b7,D7),(b8,.inl (.array .int,[.ref b0,q1,q2])),(b9,D9),(b10,D10),(b11,D11),(b12,D12),(b13,.inl (.int,[.int e0,.int e1]))] (oVoid fun d=>∃ b13' : Addr,d=[(b0,.inl (.int,[.int y0,.int y1])),(b1,D1),(b2,D2),(b3,oP b10 b13' b11 b12 b4 b5 b6 b7 b8 b9 (.int 1) (.ref b0) f_mc f_cn f_dl (.int 1) f_cc f_rc f_hd f_ea),(b4,D4),(b5,D5),(b6,D6),(b7,D7),(b8,.inl (.array .int,[.ref b0,q1,q2])),(b9,D9),(b10,D10),(b11,D11),(b12,D12),(b13',.inl (.int,[.int 0,.int 0]))]):=by
 refine oCo #[.val (.ref b3),.unset,.unset] ?_
 intro p e s m below meth c K
 refine Ya 1 K d14_0 <|Yc 3 15 4 K (hw 91) d14_1 ?_
 refine Gc 45 7 K d14_4 <|Ya 8 K d14_7 <|Yc 3 1 11 K (hw 21) d14_8 <|Yf 13 2 12 K d14_11 <|Ya 13 K d14_12 <|Yc 3 11 16 K (hw 59) d14_13 <|Yf 0 2 17 K d14_16 ?_
 refine Y8 31 20 K d14_17 <|Ya 32 K d14_31 <|Yc 3 1 35 K (hw 21) d14_32 <|Yd 0 36 K d14_35 <|Ya 37 K d14_36 <|Yc 3 11 40 K (hw 59) d14_37 <|Yf 0 2 41 K d14_40 <|Yd 0 42 K d14_41 ?_
 refine Gu [.ref b13,.int 0,.int 2,.int 0] [] 0 0 0 45 K (hw 102) (hw 103) (hw 37) (hw 104) (own_fillF_2_2 @hw) (lenOf pd_16 rfl) d14_42 ?_
 rintro _ rfl
 refine Ya 46 K d14_45 <|Yc 3 15 49 K (hw 91) d14_46 <|Ya 50 K d14_49 <|Yc 3 10 53 K (hw 57) d14_50 ?_
 refine Yy 121 56 K d14_53 <|Ya 57 K d14_56 <|Yc 3 8 60 K (hw 43) d14_57 <|Ya 61 K d14_60 <|Yc 3 15 64 K (hw 91) d14_61 <|Gz 8 0 65 K d14_64 ?_
 refine Gl 66 K d14_65 U1 <|Yd 0 67 K d14_66 ?_
 refine Yz 68 K d14_67 U2 <|Ye 69 K d14_68 <|Ya 70 K d14_69 <|Yc 3 11 73 K (hw 59) d14_70 <|Yf 0 2 74 K d14_73 ?_
 refine Yy 108 77 K d14_74 <|Ya 78 K d14_77 <|Yc 3 1 81 K (hw 21) d14_78 <|Ye 82 K d14_81 <|Ya 83 K d14_82 <|Yc 3 1 86 K (hw 21) d14_83 <|Ye 87 K d14_86 <|Yn 13 0 88 K d14_87 <|Ya 89 K d14_88 <|Ya 90 K d14_89 <|Yc 3 11 93 K (hw 59) d14_90 <|Ye 94 K d14_93 ?_
 refine Yn 0 0 95 K d14_94 ?_
 refine Yk [.ref b0,.int y0] [.int 0,.int 0,.ref b13] 3 0 0 98 K (hw 108) (hw 109) (hw 11) (hw 110) (own_dist_2 @hw (ix:=0) rfl (by omega) (by omega) (by omega) (by omega)) (lenOf pd_8 rfl) d14_95 ?_
 rintro _ _ ⟨dz95,rfl,hdz95,rfl⟩
 obtain rfl : dz95=(0 : Int32):=oEq32.mpr ((hdz95 (by omega)).trans (by decide))
 refine Yk [.int 0,.int 0] [.int 0,.ref b13] 2 0 0 101 K (hw 73) (hw 6) (hw 7) (hw 8) (own_max @hw) (lenOf pd_9 rfl) d14_98 ?_
 rintro _ _ ⟨mz98,rfl,hmz98,rfl⟩
 obtain rfl : mz98=(0 : Int32):=oEq32.mpr (hmz98.trans (by decide))
 refine Yr 13 0 102 K d14_101 rfl (S13 T0) ?_
 refine Yg 1 105 K d14_102 U2 <|Yi 68 K d14_105 <|Ye 69 K d14_68 <|Ya 70 K d14_69 <|Yc 3 11 73 K (hw 59) d14_70 <|Yf 0 2 74 K d14_73 ?_
 refine Yy 108 77 K d14_74 <|Ya 78 K d14_77 <|Yc 3 1 81 K (hw 21) d14_78 <|Ye 82 K d14_81 <|Ya 83 K d14_82 <|Yc 3 1 86 K (hw 21) d14_83 <|Ye 87 K d14_86 <|Yn 13 1 88 K d14_87 <|Ya 89 K d14_88 <|Ya 90 K d14_89 <|Yc 3 11 93 K (hw 59) d14_90 <|Ye 94 K d14_93 ?_
 refine Yn 0 1 95 K d14_94 ?_
 refine Yk [.ref b0,.int y1] [.int 0,.int 1,.ref b13] 3 0 0 98 K (hw 108) (hw 109) (hw 11) (hw 110) (own_dist_2 @hw (ix:=0) rfl (by omega) (by omega) (by omega) (by omega)) (lenOf pd_8 rfl) d14_95 ?_
 rintro _ _ ⟨dz95_1,rfl,hdz95_1,rfl⟩
 obtain rfl : dz95_1=(0 : Int32):=oEq32.mpr ((hdz95_1 (by omega)).trans (by decide))
 refine Yk [.int 0,.int 0] [.int 1,.ref b13] 2 0 0 101 K (hw 73) (hw 6) (hw 7) (hw 8) (own_max @hw) (lenOf pd_9 rfl) d14_98 ?_
 rintro _ _ ⟨mz98_1,rfl,hmz98_1,rfl⟩
 obtain rfl : mz98_1=(0 : Int32):=oEq32.mpr (hmz98_1.trans (by decide))
 refine Yr 13 1 102 K d14_101 rfl (S13 T1) ?_
 refine Yg 2 105 K d14_102 U2 <|Yi 68 K d14_105 <|Ye 69 K d14_68 <|Ya 70 K d14_69 <|Yc 3 11 73 K (hw 59) d14_70 <|Yf 0 2 74 K d14_73 ?_
 refine Y8 108 77 K d14_74 <|Ya 109 K d14_108 ?_
 refine Yv 110 K d14_109 <|Yc 3 15 113 K (hw 91) d14_110 <|Yd 1 114 K d14_113 ?_
 refine Ym 1 115 K d14_114 ?_
 refine Yl 3 15 .int 118 K (hw 91) (Or.inl (hw 92)) (hw 10) (oAp_0 @hw) d14_115 rfl rfl (P3 F15) <|Yi 45 K d14_118 <|Ya 46 K d14_45 <|Yc 3 15 49 K (hw 91) d14_46 <|Ya 50 K d14_49 <|Yc 3 10 53 K (hw 57) d14_50 ?_
 refine Y8 121 56 K d14_53 ?_
 exact Ga K d14_121 ⟨rfl,_,rfl⟩
theorem own_find1_2_2 (hw : oHw a0 Z) {D1 D2 D4 D5 D7 : oDsc} {f_mc f_cc : Value} {q1 q2 : Value} {y0 y1 e0 e1 dl : Int32} (hy0 : 1 ≤ y0.toInt ∧ y0.toInt ≤ 100000) (hy1 : 1 ≤ y1.toInt ∧ y1.toInt ≤ 100000) (hy0y1 : y0.toInt < y1.toInt) {ocs : List Int64} {cnt : Nat} {cn : Int32} (hcn : cn.toInt = (cnt : Int)) (hO : oEnt ocs cnt 2) (hs : oSrt ocs cnt) (hol : ocs.length ≤ 1000) {wv : UInt64} {iw : Int} (hSt : Sta Z h0 "java/lang/StrictMath" "$assertionsDisabled" "Z" (.int 1)) (hwh : oWh wv) (hwv : FP.Core.DInt iw wv) (hiw : 1 ≤ iw) (hiw2 : iw ≤ 1000) {rds : List Int64} {cvs : List Value} {r0 r1 r2 : Int32} {ch : Int} {ti0 ti1 : Nat} {tx0 tx1 : Int64} (hdl : 1 ≤ dl.toInt ∧ dl.toInt ≤ 100000) (hrl : 1 ≤ rds.length ∧ rds.length ≤ 1000) (hcc : 1 < cvs.length) (hch : 0 ≤ ch ∧ ch ≤ 2) (hr0 : (r0.toInt = 0 ∧ ch = 0) ∨ (1 ≤ r0.toInt ∧ ch ≠ 0)) (hr1 : (r1.toInt = 0 ∧ ch = 1) ∨ (1 ≤ r1.toInt ∧ ch ≠ 1)) (hr2 : (r2.toInt = 0 ∧ ch = 2) ∨ (1 ≤ r2.toInt ∧ ch ≠ 2)) (ht0 : ti0 < cnt ∧ ocs[ti0]? = some tx0 ∧ tx0.toInt = y0.toInt * 4294967296 + ch) (ht1 : ti1 < cnt ∧ ocs[ti1]? = some tx1 ∧ tx1.toInt = y1.toInt * 4294967296 + ch) (hC : ∀ (i : Nat) (x : Int64) (p : Int), i < cnt → ocs[i]? = some x → x.toInt = p * 4294967296 + ch → p = y0.toInt ∨ p = y1.toInt) :
  oCtr l Z h0 [] nM32 prog_7_method_5_code 10 (some .int) (oR 6 1 2 124) #[.ref b3,.double wv] [(b0,.inl (.int,[.int y0,.int y1])),(b1,D1),(b2,D2),(b3,oP b10 b13 b11 b12 b4 b5 b6 b7 b8 b9 (.int 1) (.ref b0) f_mc (.int cn) (.int dl) (.int 0) f_cc (.int 0) (.int 0) (.int 0)),(b4,D4),(b5,D5),(b6,.inl (.int,[.int r0,.int r1,.int r2])),(b7,D7),(b8,.inl (.array .int,[.ref b0,q1,q2])),(b9,.inl (.int,[.int 0,.int 0,.int 0])),(b10,.inl (.long,(ocs.map Value.long))),(b11,.inl (.long,(rds.map Value.long))),(b12,.inl (.int,cvs)),(b13,.inl (.int,[.int e0,.int e1]))] (oVal fun w d=>∃ (b13' : Addr) (rds' : List Int64),w=.int 2∧d=[(b0,.inl (.int,[.int y0,.int y1])),(b1,D1),(b2,D2),(b3,oP b10 b13' b11 b12 b4 b5 b6 b7 b8 b9 (.int 1) (.ref b0) f_mc (.int cn) (.int dl) (.int 1) (.int 2) (.int 0) (.int 0) (.int 0)),(b4,D4),(b5,D5),(b6,.inl (.int,[.int r0,.int r1,.int r2])),(b7,D7),(b8,.inl (.array .int,[.ref b0,q1,q2])),(b9,.inl (.int,[.int 0,.int 0,.int 0])),(b10,.inl (.long,(ocs.map Value.long))),(b11,.inl (.long,(rds'.map Value.long))),(b12,.inl (.int,((cvs.set 0 (.int 1)).set 1 (.int 1)))),(b13',.inl (.int,[.int 0,.int 0]))]∧rds'.length=rds.length):=by
 refine oCo #[.val (.ref b3),.val (.double wv),.second,.unset,.unset,.unset,.unset,.unset,.unset,.unset] ?_
 intro p e s m below meth c K
 refine Ya 1 K d13_0 ?_
 refine Ge b3 nM12 [] [] 0 1 2 4 K (hw 98) (hw 100) (hw 50) (hw 99) (hw 101) (hw 11) (own_widen1_2_2 @hw (by omega) (by omega) (by omega)) (lenOf pd_4 rfl) d13_1 ?_
 rintro _ ⟨b13',rfl⟩
 refine Y1 5 K d13_4 ?_
 refine oW.floorW (pc':=8) K @hw (hw 117) hSt hwh d13_5 rfl (by decide) (by decide) rfl ?_
 refine Ya 9 K d13_8 <|Yc 3 14 12 K (hw 65) d13_9 ?_
 obtain ⟨v12,ev12⟩:=oE (FP.i2d dl : UInt64)
 have dv12:=oI2D ev12
 refine Gh 13 K d13_12 ev12 ?_
 obtain ⟨md,emd⟩:=oE (Native.java_lang_Math.nans.pick64 false wv v12 : UInt64)
 have hmd : FP.Core.DInt (min iw dl.toInt) md:=by rw [emd]; exact oPick hwv dv12
 refine oW.minDW (pc':=16) K @hw (hw 140) (oNN hwv) (oNN dv12) emd d13_13 rfl (by decide) (by decide) (by decide) (by decide) rfl ?_
 obtain ⟨v16,ev16⟩:=oE (FP.d2i md : Int32)
 refine G3 17 K d13_16 ev16 ?_
 have tv16:=oD2I ev16 hmd (by omega)
 refine Yd 1 18 K d13_17 ?_
 obtain ⟨v18,ev18⟩:=oE (v16 - (1 : Int32) : Int32)
 refine Y9 19 K d13_18 ev18 ?_
 have tv18:=oIsub ev18 oOm
 try simp only [Int32.reduceToInt,Int64.reduceToInt] at tv18
 refine Yz 20 K d13_19 U3 <|Ya 21 K d13_20 <|Yd 0 22 K d13_21 ?_
 refine Yl 3 16 .int 25 K (hw 143) (Or.inl (hw 144)) (hw 10) (oAp_0 @hw) d13_22 rfl rfl (P3 F16) <|Yd 0 26 K d13_25 ?_
 refine Yj 28 K d13_26 U4 <|Yd 0 29 K d13_28 ?_
 refine Yj 31 K d13_29 U5 <|Yd 0 32 K d13_31 ?_
 refine Yj 34 K d13_32 U6 <|Yb 36 K d13_34 <|Ya 37 K d13_36 <|Yc 3 11 40 K (hw 59) d13_37 <|Yf 0 2 41 K d13_40 ?_
 refine Yy 139 44 K d13_41 <|Ya 45 K d13_44 <|Yc 3 11 48 K (hw 59) d13_45 <|Yb 50 K d13_48 <|Yn 0 0 51 K d13_50 ?_
 refine Yj 53 K d13_51 U7 <|Ya 54 K d13_53 <|Yc 3 1 57 K (hw 21) d13_54 <|Yb 59 K d13_57 <|Yn 13 0 60 K d13_59 <|Yd 1 61 K d13_60 ?_
 refine Ym 1 62 K d13_61 ?_
 refine G2 (4607182418800017408 : UInt64) 63 K d13_62 <|Y1 64 K d13_63 ?_
 obtain ⟨v64,ev64⟩:=oE (cmpValue (FP.dcmp (4607182418800017408 : UInt64) wv) .l : Int32)
 refine Gi 65 K d13_64 ev64 ?_
 refine oW.if_gt (pc':=133) (pc3:=68) K d13_65 (by decide) (by decide) rfl (fun q=>absurd ((oCmp (oDK 1 (by decide +kernel) (by decide)) hwv ev64).2.2.mp q) (by omega)) (fun c65=>?_)
 refine Yb 70 K d13_68 <|Yb 72 K d13_70 ?_
 refine oW.icmp_gt (pc':=78) (pc3:=75) K d13_72 (by decide) (by decide) rfl (fun c72=>?_) (fun q=>(by simp only [oLt32,oEq32,Int32.reduceToInt] at q; omega))
 refine Yb 80 K d13_78 ?_
 obtain ⟨v80,ev80⟩:=oE (y0.toInt64 : Int64)
 refine Gd 81 K d13_80 ev80 ?_
 have tv80 : v80.toInt=_:=oI2L ev80
 refine Ye 82 K d13_81 ?_
 obtain ⟨v82,ev82⟩:=oE (v18.toInt64 : Int64)
 refine Gd 83 K d13_82 ev82 ?_
 have tv82 : v82.toInt=_:=oI2L ev82
 obtain ⟨v83,ev83⟩:=oE (v80 + v82 : Int64)
 refine Gv 84 K d13_83 ev83 ?_
 have tv83:=oLadd ev83 oOm
 try simp only [Int32.reduceToInt,Int64.reduceToInt] at tv83
 refine Gx 87 K (hw 156) d13_84 ?_
 refine Yk [.long v83,.long 2147483647] [] 0 1 2 90 K (hw 157) (hw 158) (hw 7) (hw 159) (own_minJ @hw) (lenOf pd_17 rfl) d13_87 ?_
 rintro _ _ ⟨mj87,rfl,tmj87,rfl⟩
 rw [show (2147483647 : Int64).toInt=2147483647 by decide] at tmj87
 obtain ⟨v90,ev90⟩:=oE (mj87.toInt32 : Int32)
 refine Gs 91 K d13_90 ev90 ?_
 have tv90:=oL2I ev90 (by omega)
 refine Yj 93 K d13_91 U8 <|Ya 94 K d13_93 <|Yb 96 K d13_94 <|Yd 1 97 K d13_96 ?_
 refine Ym 1 98 K d13_97 <|Yb 100 K d13_98 <|Ye 101 K d13_100 ?_
 obtain ⟨v101,ev101⟩:=oE (y0 - v18 : Int32)
 refine Y9 102 K d13_101 ev101 ?_
 have tv101:=oIsub ev101 oOm
 try simp only [Int32.reduceToInt,Int64.reduceToInt] at tv101
 refine Yk [.int 1,.int v101] [.ref b3] 1 1 2 105 K (hw 73) (hw 6) (hw 7) (hw 8) (own_max @hw) (lenOf pd_9 rfl) d13_102 ?_
 rintro _ _ ⟨lo102,rfl,tlo102,rfl⟩
 try simp only [Int32.reduceToInt] at tlo102
 refine Yb 107 K d13_105 <|Y1 108 K d13_107 ?_
 refine Gk b3 nM12 [.int lo102,.int v90,.double wv] [] 0 1 2 111 K (hw 160) (hw 162) (hw 50) (hw 161) (hw 163) (hw 11) (own_rr1_0 @hw hcn hO hs hol hwv hiw (by omega) (by omega) hch hr0 hr1 hr2 (by omega) (by omega) ht0.1 ht0.2.1 ht0.2.2 (fun i x p a b c g=>by have:=hC i x p a b c; omega)) (lenOf pd_18 rfl) d13_108 ?_
 rintro _ _ ⟨rds0,z0,rfl,rfl,hl0,tz0⟩
 refine Yj 113 K d13_111 U9 <|Yb 115 K d13_113 ?_
 refine oW.if_ne (pc':=125) (pc3:=118) K d13_115 (by decide) (by decide) rfl (fun c115=>?_) (fun q=>(by simp only [oLt32,oEq32,Int32.reduceToInt] at q; omega))
 refine Yb 127 K d13_125 ?_
 refine Yj 129 K d13_127 U4 <|Yb 131 K d13_129 ?_
 refine Yj 133 K d13_131 U5 ?_
 refine Yg 1 136 K d13_133 U6 <|Yi 34 K d13_136 <|Yb 36 K d13_34 <|Ya 37 K d13_36 <|Yc 3 11 40 K (hw 59) d13_37 <|Yf 0 2 41 K d13_40 ?_
 refine Yy 139 44 K d13_41 <|Ya 45 K d13_44 <|Yc 3 11 48 K (hw 59) d13_45 <|Yb 50 K d13_48 <|Yn 0 1 51 K d13_50 ?_
 refine Yj 53 K d13_51 U7 <|Ya 54 K d13_53 <|Yc 3 1 57 K (hw 21) d13_54 <|Yb 59 K d13_57 <|Yn 13 1 60 K d13_59 <|Yd 1 61 K d13_60 ?_
 refine Ym 1 62 K d13_61 ?_
 refine G2 (4607182418800017408 : UInt64) 63 K d13_62 <|Y1 64 K d13_63 ?_
 obtain ⟨v64_1,ev64_1⟩:=oE (cmpValue (FP.dcmp (4607182418800017408 : UInt64) wv) .l : Int32)
 refine Gi 65 K d13_64 ev64_1 ?_
 refine oW.if_gt (pc':=133) (pc3:=68) K d13_65 (by decide) (by decide) rfl (fun q=>absurd ((oCmp (oDK 1 (by decide +kernel) (by decide)) hwv ev64_1).2.2.mp q) (by omega)) (fun c65_1=>?_)
 refine Yb 70 K d13_68 <|Yb 72 K d13_70 ?_
 refine oW.icmp_gt (pc':=78) (pc3:=75) K d13_72 (by decide) (by decide) rfl (fun c72_1=>?_) (fun q=>(by simp only [oLt32,oEq32,Int32.reduceToInt] at q; omega))
 refine Yb 80 K d13_78 ?_
 obtain ⟨v80_1,ev80_1⟩:=oE (y1.toInt64 : Int64)
 refine Gd 81 K d13_80 ev80_1 ?_
 have tv80_1 : v80_1.toInt=_:=oI2L ev80_1
 refine Ye 82 K d13_81 ?_
 obtain ⟨v82_1,ev82_1⟩:=oE (v18.toInt64 : Int64)
 refine Gd 83 K d13_82 ev82_1 ?_
 have tv82_1 : v82_1.toInt=_:=oI2L ev82_1
 obtain ⟨v83_1,ev83_1⟩:=oE (v80_1 + v82_1 : Int64)
 refine Gv 84 K d13_83 ev83_1 ?_
 have tv83_1:=oLadd ev83_1 oOm
 try simp only [Int32.reduceToInt,Int64.reduceToInt] at tv83_1
 refine Gx 87 K (hw 156) d13_84 ?_
 refine Yk [.long v83_1,.long 2147483647] [] 0 1 2 90 K (hw 157) (hw 158) (hw 7) (hw 159) (own_minJ @hw) (lenOf pd_17 rfl) d13_87 ?_
 rintro _ _ ⟨mj87_1,rfl,tmj87_1,rfl⟩
 rw [show (2147483647 : Int64).toInt=2147483647 by decide] at tmj87_1
 obtain ⟨v90_1,ev90_1⟩:=oE (mj87_1.toInt32 : Int32)
 refine Gs 91 K d13_90 ev90_1 ?_
 have tv90_1:=oL2I ev90_1 (by omega)
 refine Yj 93 K d13_91 U8 <|Ya 94 K d13_93 <|Yb 96 K d13_94 <|Yd 1 97 K d13_96 ?_
 obtain ⟨v97,ev97⟩:=oE (z0 + (1 : Int32) : Int32)
 refine Y0 98 K d13_97 ev97 ?_
 have tv97:=oIadd ev97 oOm
 try simp only [Int32.reduceToInt,Int64.reduceToInt] at tv97
 refine Yb 100 K d13_98 <|Ye 101 K d13_100 ?_
 obtain ⟨v101_1,ev101_1⟩:=oE (y1 - v18 : Int32)
 refine Y9 102 K d13_101 ev101_1 ?_
 have tv101_1:=oIsub ev101_1 oOm
 try simp only [Int32.reduceToInt,Int64.reduceToInt] at tv101_1
 refine Yk [.int v97,.int v101_1] [.ref b3] 1 1 2 105 K (hw 73) (hw 6) (hw 7) (hw 8) (own_max @hw) (lenOf pd_9 rfl) d13_102 ?_
 rintro _ _ ⟨lo102_1,rfl,tlo102_1,rfl⟩
 try simp only [Int32.reduceToInt] at tlo102_1
 refine Yb 107 K d13_105 <|Y1 108 K d13_107 ?_
 refine Gk b3 nM12 [.int lo102_1,.int v90_1,.double wv] [] 0 1 2 111 K (hw 160) (hw 162) (hw 50) (hw 161) (hw 163) (hw 11) (own_rr1_1 @hw hcn hO hs hol hwv hiw (by omega) (by rw [List.length_set]; omega) hch hr0 hr1 hr2 (by omega) (by omega) ht1.1 ht1.2.1 ht1.2.2 (fun i x p a b c g=>by have:=hC i x p a b c; omega)) (lenOf pd_18 rfl) d13_108 ?_
 rintro _ _ ⟨rds1,z1,rfl,rfl,hl1,tz1⟩
 refine Yj 113 K d13_111 U9 <|Yb 115 K d13_113 ?_
 refine oW.if_ne (pc':=125) (pc3:=118) K d13_115 (by decide) (by decide) rfl (fun c115_1=>?_) (fun q=>(by simp only [oLt32,oEq32,Int32.reduceToInt] at q; omega))
 refine Yb 127 K d13_125 ?_
 refine Yj 129 K d13_127 U4 <|Yb 131 K d13_129 ?_
 refine Yj 133 K d13_131 U5 ?_
 refine Yg 2 136 K d13_133 U6 <|Yi 34 K d13_136 <|Yb 36 K d13_34 <|Ya 37 K d13_36 <|Yc 3 11 40 K (hw 59) d13_37 <|Yf 0 2 41 K d13_40 ?_
 refine Y8 139 44 K d13_41 <|Ya 140 K d13_139 ?_
 refine Ge b3 nM12 [] [] 0 1 2 143 K (hw 145) (hw 147) (hw 50) (hw 146) (hw 148) (hw 11) (own_restart @hw (n:=0) (by decide) (by omega) oEnt.z oKp.z oKp.z (by decide)) (lenOf pd_4 rfl) d13_140 ?_
 rintro _ rfl
 refine Ya 144 K d13_143 <|Yc 3 16 147 K (hw 143) d13_144 ?_
 exact Yq K d13_147 ⟨_,rfl,_,_,rfl,rfl,hl1.trans hl0⟩
theorem own_fillF_2_1 (hw : oHw a0 Z) {D0 D1 D2 D3 D4 D5 D6 D7 D8 D9 D10 D11 D12 : oDsc} {e0 e1 : Int32} :
  oCtr l Z h0 [] nM30 jdk_65_method_104_code 5 none (oR 1 0 0 24) #[.ref b13,.int 0,.int 1,.int 0] [(b0,D0),(b1,D1),(b2,D2),(b3,D3),(b4,D4),(b5,D5),(b6,D6),(b7,D7),(b8,D8),(b9,D9),(b10,D10),(b11,D11),(b12,D12),(b13,.inl (.int,[.int e0,.int e1]))] (oVoid fun d=>d=[(b0,D0),(b1,D1),(b2,D2),(b3,D3),(b4,D4),(b5,D5),(b6,D6),(b7,D7),(b8,D8),(b9,D9),(b10,D10),(b11,D11),(b12,D12),(b13,.inl (.int,[.int 0,.int e1]))]):=by
 refine oCo #[.val (.ref b13),.val (.int 0),.val (.int 1),.val (.int 0),.unset] ?_
 intro p e s m below meth c K
 refine Ya 1 K d15_0 <|Yf 13 2 2 K d15_1 <|Ye 3 K d15_2 <|Ye 4 K d15_3 ?_
 refine Gu [.int 2,.int 0,.int 1] [] 0 0 0 7 K (hw 105) (hw 106) (hw 37) (hw 107) (own_rc @hw (by decide) (by decide) (by decide)) (lenOf pd_0 rfl) d15_4 ?_
 rintro _ rfl
 refine Ye 8 K d15_7 ?_
 refine Yj 10 K d15_8 U4 <|Yb 12 K d15_10 <|Ye 13 K d15_12 ?_
 refine Yy 27 16 K d15_13 <|Ya 17 K d15_16 <|Yb 19 K d15_17 <|Ye 20 K d15_19 ?_
 refine Yr 13 0 21 K d15_20 rfl (S13 T0) ?_
 refine Yg 1 24 K d15_21 U4 <|Yi 10 K d15_24 <|Yb 12 K d15_10 <|Ye 13 K d15_12 ?_
 refine Y8 27 16 K d15_13 ?_
 exact Ga K d15_27 ⟨rfl,rfl⟩
theorem own_widen1_1_2 (hw : oHw a0 Z) {D1 D2 D4 D5 D6 D7 D9 D10 D11 D12 : oDsc} {f_mc f_cn f_dl f_cc f_rc f_hd f_ea : Value} {q1 q2 : Value} {y0 e0 e1 : Int32} (hy0 : 1≤y0.toInt∧y0.toInt≤100000) :
  oCtr l Z h0 [] nM31 prog_7_method_7_code 3 none (oR 3 1 2 60) #[.ref b3] [(b0,.inl (.int,[.int y0])),(b1,D1),(b2,D2),(b3,oP b10 b13 b11 b12 b4 b5 b6 b7 b8 b9 (.int 1) (.ref b0) f_mc f_cn f_dl (.int 0) f_cc f_rc f_hd f_ea),(b4,D4),(b5,D5),(b6,D6),(b7,D7),(b8,.inl (.array .int,[.ref b0,q1,q2])),(b9,D9),(b10,D10),(b11,D11),(b12,D12),(b13,.inl (.int,[.int e0,.int e1]))] (oVoid fun d=>∃ b13' : Addr,d=[(b0,.inl (.int,[.int y0])),(b1,D1),(b2,D2),(b3,oP b10 b13' b11 b12 b4 b5 b6 b7 b8 b9 (.int 1) (.ref b0) f_mc f_cn f_dl (.int 1) f_cc f_rc f_hd f_ea),(b4,D4),(b5,D5),(b6,D6),(b7,D7),(b8,.inl (.array .int,[.ref b0,q1,q2])),(b9,D9),(b10,D10),(b11,D11),(b12,D12),(b13',.inl (.int,[.int 0,.int e1]))]):=by
 refine oCo #[.val (.ref b3),.unset,.unset] ?_
 intro p e s m below meth c K
 refine Ya 1 K d14_0 <|Yc 3 15 4 K (hw 91) d14_1 ?_
 refine Gc 45 7 K d14_4 <|Ya 8 K d14_7 <|Yc 3 1 11 K (hw 21) d14_8 <|Yf 13 2 12 K d14_11 <|Ya 13 K d14_12 <|Yc 3 11 16 K (hw 59) d14_13 <|Yf 0 1 17 K d14_16 ?_
 refine Y8 31 20 K d14_17 <|Ya 32 K d14_31 <|Yc 3 1 35 K (hw 21) d14_32 <|Yd 0 36 K d14_35 <|Ya 37 K d14_36 <|Yc 3 11 40 K (hw 59) d14_37 <|Yf 0 1 41 K d14_40 <|Yd 0 42 K d14_41 ?_
 refine Gu [.ref b13,.int 0,.int 1,.int 0] [] 0 0 0 45 K (hw 102) (hw 103) (hw 37) (hw 104) (own_fillF_2_1 @hw) (lenOf pd_16 rfl) d14_42 ?_
 rintro _ rfl
 refine Ya 46 K d14_45 <|Yc 3 15 49 K (hw 91) d14_46 <|Ya 50 K d14_49 <|Yc 3 10 53 K (hw 57) d14_50 ?_
 refine Yy 121 56 K d14_53 <|Ya 57 K d14_56 <|Yc 3 8 60 K (hw 43) d14_57 <|Ya 61 K d14_60 <|Yc 3 15 64 K (hw 91) d14_61 <|Gz 8 0 65 K d14_64 ?_
 refine Gl 66 K d14_65 U1 <|Yd 0 67 K d14_66 ?_
 refine Yz 68 K d14_67 U2 <|Ye 69 K d14_68 <|Ya 70 K d14_69 <|Yc 3 11 73 K (hw 59) d14_70 <|Yf 0 1 74 K d14_73 ?_
 refine Yy 108 77 K d14_74 <|Ya 78 K d14_77 <|Yc 3 1 81 K (hw 21) d14_78 <|Ye 82 K d14_81 <|Ya 83 K d14_82 <|Yc 3 1 86 K (hw 21) d14_83 <|Ye 87 K d14_86 <|Yn 13 0 88 K d14_87 <|Ya 89 K d14_88 <|Ya 90 K d14_89 <|Yc 3 11 93 K (hw 59) d14_90 <|Ye 94 K d14_93 ?_
 refine Yn 0 0 95 K d14_94 ?_
 refine Yk [.ref b0,.int y0] [.int 0,.int 0,.ref b13] 3 0 0 98 K (hw 108) (hw 109) (hw 11) (hw 110) (own_dist_1 @hw (ix:=0) rfl (by omega) (by omega)) (lenOf pd_8 rfl) d14_95 ?_
 rintro _ _ ⟨dz95,rfl,hdz95,rfl⟩
 obtain rfl : dz95=(0 : Int32):=oEq32.mpr ((hdz95 (by omega)).trans (by decide))
 refine Yk [.int 0,.int 0] [.int 0,.ref b13] 2 0 0 101 K (hw 73) (hw 6) (hw 7) (hw 8) (own_max @hw) (lenOf pd_9 rfl) d14_98 ?_
 rintro _ _ ⟨mz98,rfl,hmz98,rfl⟩
 obtain rfl : mz98=(0 : Int32):=oEq32.mpr (hmz98.trans (by decide))
 refine Yr 13 0 102 K d14_101 rfl (S13 T0) ?_
 refine Yg 1 105 K d14_102 U2 <|Yi 68 K d14_105 <|Ye 69 K d14_68 <|Ya 70 K d14_69 <|Yc 3 11 73 K (hw 59) d14_70 <|Yf 0 1 74 K d14_73 ?_
 refine Y8 108 77 K d14_74 <|Ya 109 K d14_108 ?_
 refine Yv 110 K d14_109 <|Yc 3 15 113 K (hw 91) d14_110 <|Yd 1 114 K d14_113 ?_
 refine Ym 1 115 K d14_114 ?_
 refine Yl 3 15 .int 118 K (hw 91) (Or.inl (hw 92)) (hw 10) (oAp_0 @hw) d14_115 rfl rfl (P3 F15) <|Yi 45 K d14_118 <|Ya 46 K d14_45 <|Yc 3 15 49 K (hw 91) d14_46 <|Ya 50 K d14_49 <|Yc 3 10 53 K (hw 57) d14_50 ?_
 refine Y8 121 56 K d14_53 ?_
 exact Ga K d14_121 ⟨rfl,_,rfl⟩
theorem own_find1_1_2 (hw : oHw a0 Z) {D1 D2 D4 D5 D7 : oDsc} {f_mc f_cc : Value} {q1 q2 : Value} {y0 e0 e1 dl : Int32} (hy0 : 1 ≤ y0.toInt ∧ y0.toInt ≤ 100000) {ocs : List Int64} {cnt : Nat} {cn : Int32} (hcn : cn.toInt = (cnt : Int)) (hO : oEnt ocs cnt 2) (hs : oSrt ocs cnt) (hol : ocs.length ≤ 1000) {wv : UInt64} {iw : Int} (hSt : Sta Z h0 "java/lang/StrictMath" "$assertionsDisabled" "Z" (.int 1)) (hwh : oWh wv) (hwv : FP.Core.DInt iw wv) (hiw : 1 ≤ iw) (hiw2 : iw ≤ 1000) {rds : List Int64} {cvs : List Value} {r0 r1 r2 : Int32} {ch : Int} {ti0 : Nat} {tx0 : Int64} (hdl : 1 ≤ dl.toInt ∧ dl.toInt ≤ 100000) (hrl : 1 ≤ rds.length ∧ rds.length ≤ 1000) (hcc : 0 < cvs.length) (hch : 0 ≤ ch ∧ ch ≤ 2) (hr0 : (r0.toInt = 0 ∧ ch = 0) ∨ (1 ≤ r0.toInt ∧ ch ≠ 0)) (hr1 : (r1.toInt = 0 ∧ ch = 1) ∨ (1 ≤ r1.toInt ∧ ch ≠ 1)) (hr2 : (r2.toInt = 0 ∧ ch = 2) ∨ (1 ≤ r2.toInt ∧ ch ≠ 2)) (ht0 : ti0 < cnt ∧ ocs[ti0]? = some tx0 ∧ tx0.toInt = y0.toInt * 4294967296 + ch) (hC : ∀ (i : Nat) (x : Int64) (p : Int), i < cnt → ocs[i]? = some x → x.toInt = p * 4294967296 + ch → p = y0.toInt) :
  oCtr l Z h0 [] nM32 prog_7_method_5_code 10 (some .int) (oR 6 1 2 124) #[.ref b3,.double wv] [(b0,.inl (.int,[.int y0])),(b1,D1),(b2,D2),(b3,oP b10 b13 b11 b12 b4 b5 b6 b7 b8 b9 (.int 1) (.ref b0) f_mc (.int cn) (.int dl) (.int 0) f_cc (.int 0) (.int 0) (.int 0)),(b4,D4),(b5,D5),(b6,.inl (.int,[.int r0,.int r1,.int r2])),(b7,D7),(b8,.inl (.array .int,[.ref b0,q1,q2])),(b9,.inl (.int,[.int 0,.int 0,.int 0])),(b10,.inl (.long,(ocs.map Value.long))),(b11,.inl (.long,(rds.map Value.long))),(b12,.inl (.int,cvs)),(b13,.inl (.int,[.int e0,.int e1]))] (oVal fun w d=>∃ (b13' : Addr) (rds' : List Int64),w=.int 1∧d=[(b0,.inl (.int,[.int y0])),(b1,D1),(b2,D2),(b3,oP b10 b13' b11 b12 b4 b5 b6 b7 b8 b9 (.int 1) (.ref b0) f_mc (.int cn) (.int dl) (.int 1) (.int 1) (.int 0) (.int 0) (.int 0)),(b4,D4),(b5,D5),(b6,.inl (.int,[.int r0,.int r1,.int r2])),(b7,D7),(b8,.inl (.array .int,[.ref b0,q1,q2])),(b9,.inl (.int,[.int 0,.int 0,.int 0])),(b10,.inl (.long,(ocs.map Value.long))),(b11,.inl (.long,(rds'.map Value.long))),(b12,.inl (.int,(cvs.set 0 (.int 1)))),(b13',.inl (.int,[.int 0,.int e1]))]∧rds'.length=rds.length):=by
 refine oCo #[.val (.ref b3),.val (.double wv),.second,.unset,.unset,.unset,.unset,.unset,.unset,.unset] ?_
 intro p e s m below meth c K
 refine Ya 1 K d13_0 ?_
 refine Ge b3 nM12 [] [] 0 1 2 4 K (hw 98) (hw 100) (hw 50) (hw 99) (hw 101) (hw 11) (own_widen1_1_2 @hw (by omega)) (lenOf pd_4 rfl) d13_1 ?_
 rintro _ ⟨b13',rfl⟩
 refine Y1 5 K d13_4 ?_
 refine oW.floorW (pc':=8) K @hw (hw 117) hSt hwh d13_5 rfl (by decide) (by decide) rfl ?_
 refine Ya 9 K d13_8 <|Yc 3 14 12 K (hw 65) d13_9 ?_
 obtain ⟨v12,ev12⟩:=oE (FP.i2d dl : UInt64)
 have dv12:=oI2D ev12
 refine Gh 13 K d13_12 ev12 ?_
 obtain ⟨md,emd⟩:=oE (Native.java_lang_Math.nans.pick64 false wv v12 : UInt64)
 have hmd : FP.Core.DInt (min iw dl.toInt) md:=by rw [emd]; exact oPick hwv dv12
 refine oW.minDW (pc':=16) K @hw (hw 140) (oNN hwv) (oNN dv12) emd d13_13 rfl (by decide) (by decide) (by decide) (by decide) rfl ?_
 obtain ⟨v16,ev16⟩:=oE (FP.d2i md : Int32)
 refine G3 17 K d13_16 ev16 ?_
 have tv16:=oD2I ev16 hmd (by omega)
 refine Yd 1 18 K d13_17 ?_
 obtain ⟨v18,ev18⟩:=oE (v16 - (1 : Int32) : Int32)
 refine Y9 19 K d13_18 ev18 ?_
 have tv18:=oIsub ev18 oOm
 try simp only [Int32.reduceToInt,Int64.reduceToInt] at tv18
 refine Yz 20 K d13_19 U3 <|Ya 21 K d13_20 <|Yd 0 22 K d13_21 ?_
 refine Yl 3 16 .int 25 K (hw 143) (Or.inl (hw 144)) (hw 10) (oAp_0 @hw) d13_22 rfl rfl (P3 F16) <|Yd 0 26 K d13_25 ?_
 refine Yj 28 K d13_26 U4 <|Yd 0 29 K d13_28 ?_
 refine Yj 31 K d13_29 U5 <|Yd 0 32 K d13_31 ?_
 refine Yj 34 K d13_32 U6 <|Yb 36 K d13_34 <|Ya 37 K d13_36 <|Yc 3 11 40 K (hw 59) d13_37 <|Yf 0 1 41 K d13_40 ?_
 refine Yy 139 44 K d13_41 <|Ya 45 K d13_44 <|Yc 3 11 48 K (hw 59) d13_45 <|Yb 50 K d13_48 <|Yn 0 0 51 K d13_50 ?_
 refine Yj 53 K d13_51 U7 <|Ya 54 K d13_53 <|Yc 3 1 57 K (hw 21) d13_54 <|Yb 59 K d13_57 <|Yn 13 0 60 K d13_59 <|Yd 1 61 K d13_60 ?_
 refine Ym 1 62 K d13_61 ?_
 refine G2 (4607182418800017408 : UInt64) 63 K d13_62 <|Y1 64 K d13_63 ?_
 obtain ⟨v64,ev64⟩:=oE (cmpValue (FP.dcmp (4607182418800017408 : UInt64) wv) .l : Int32)
 refine Gi 65 K d13_64 ev64 ?_
 refine oW.if_gt (pc':=133) (pc3:=68) K d13_65 (by decide) (by decide) rfl (fun q=>absurd ((oCmp (oDK 1 (by decide +kernel) (by decide)) hwv ev64).2.2.mp q) (by omega)) (fun c65=>?_)
 refine Yb 70 K d13_68 <|Yb 72 K d13_70 ?_
 refine oW.icmp_gt (pc':=78) (pc3:=75) K d13_72 (by decide) (by decide) rfl (fun c72=>?_) (fun q=>(by simp only [oLt32,oEq32,Int32.reduceToInt] at q; omega))
 refine Yb 80 K d13_78 ?_
 obtain ⟨v80,ev80⟩:=oE (y0.toInt64 : Int64)
 refine Gd 81 K d13_80 ev80 ?_
 have tv80 : v80.toInt=_:=oI2L ev80
 refine Ye 82 K d13_81 ?_
 obtain ⟨v82,ev82⟩:=oE (v18.toInt64 : Int64)
 refine Gd 83 K d13_82 ev82 ?_
 have tv82 : v82.toInt=_:=oI2L ev82
 obtain ⟨v83,ev83⟩:=oE (v80 + v82 : Int64)
 refine Gv 84 K d13_83 ev83 ?_
 have tv83:=oLadd ev83 oOm
 try simp only [Int32.reduceToInt,Int64.reduceToInt] at tv83
 refine Gx 87 K (hw 156) d13_84 ?_
 refine Yk [.long v83,.long 2147483647] [] 0 1 2 90 K (hw 157) (hw 158) (hw 7) (hw 159) (own_minJ @hw) (lenOf pd_17 rfl) d13_87 ?_
 rintro _ _ ⟨mj87,rfl,tmj87,rfl⟩
 rw [show (2147483647 : Int64).toInt=2147483647 by decide] at tmj87
 obtain ⟨v90,ev90⟩:=oE (mj87.toInt32 : Int32)
 refine Gs 91 K d13_90 ev90 ?_
 have tv90:=oL2I ev90 (by omega)
 refine Yj 93 K d13_91 U8 <|Ya 94 K d13_93 <|Yb 96 K d13_94 <|Yd 1 97 K d13_96 ?_
 refine Ym 1 98 K d13_97 <|Yb 100 K d13_98 <|Ye 101 K d13_100 ?_
 obtain ⟨v101,ev101⟩:=oE (y0 - v18 : Int32)
 refine Y9 102 K d13_101 ev101 ?_
 have tv101:=oIsub ev101 oOm
 try simp only [Int32.reduceToInt,Int64.reduceToInt] at tv101
 refine Yk [.int 1,.int v101] [.ref b3] 1 1 2 105 K (hw 73) (hw 6) (hw 7) (hw 8) (own_max @hw) (lenOf pd_9 rfl) d13_102 ?_
 rintro _ _ ⟨lo102,rfl,tlo102,rfl⟩
 try simp only [Int32.reduceToInt] at tlo102
 refine Yb 107 K d13_105 <|Y1 108 K d13_107 ?_
 refine Gk b3 nM12 [.int lo102,.int v90,.double wv] [] 0 1 2 111 K (hw 160) (hw 162) (hw 50) (hw 161) (hw 163) (hw 11) (own_rr1_0 @hw hcn hO hs hol hwv hiw (by omega) (by omega) hch hr0 hr1 hr2 (by omega) (by omega) ht0.1 ht0.2.1 ht0.2.2 (fun i x p a b c g=>by have:=hC i x p a b c; omega)) (lenOf pd_18 rfl) d13_108 ?_
 rintro _ _ ⟨rds0,z0,rfl,rfl,hl0,tz0⟩
 refine Yj 113 K d13_111 U9 <|Yb 115 K d13_113 ?_
 refine oW.if_ne (pc':=125) (pc3:=118) K d13_115 (by decide) (by decide) rfl (fun c115=>?_) (fun q=>(by simp only [oLt32,oEq32,Int32.reduceToInt] at q; omega))
 refine Yb 127 K d13_125 ?_
 refine Yj 129 K d13_127 U4 <|Yb 131 K d13_129 ?_
 refine Yj 133 K d13_131 U5 ?_
 refine Yg 1 136 K d13_133 U6 <|Yi 34 K d13_136 <|Yb 36 K d13_34 <|Ya 37 K d13_36 <|Yc 3 11 40 K (hw 59) d13_37 <|Yf 0 1 41 K d13_40 ?_
 refine Y8 139 44 K d13_41 <|Ya 140 K d13_139 ?_
 refine Ge b3 nM12 [] [] 0 1 2 143 K (hw 145) (hw 147) (hw 50) (hw 146) (hw 148) (hw 11) (own_restart @hw (n:=0) (by decide) (by omega) oEnt.z oKp.z oKp.z (by decide)) (lenOf pd_4 rfl) d13_140 ?_
 rintro _ rfl
 refine Ya 144 K d13_143 <|Yc 3 16 147 K (hw 143) d13_144 ?_
 exact Yq K d13_147 ⟨_,rfl,_,_,rfl,rfl,hl0⟩
theorem own_law (hw : oHw a0 Z) (hSt : Sta Z h0 "java/lang/StrictMath" "$assertionsDisabled" "Z" (.int 1)) (p0 : Int32) (p1 : Int32) (p2 : Int32) (p3 : Int32) (p4 : Int32) :
  oCtr l Z h0 tables_1 x code maxLocals ret room_1 #[.int p0,.int p1,.int p2,.int p3,.int p4] [] (oVal fun w _=>w=.int 1):=by
 refine oCtr.of (Ls:=#[.val (.int p0),.val (.int p1),.val (.int p2),.val (.int p3),.val (.int p4),.unset,.unset,.unset,.unset,.unset,.unset,.unset,.unset,.unset,.unset,.unset,.unset,.unset]) (plainFor_of_name (by first|(simp [plainName,overriddenIn]; done)|decide +kernel)) (fun m=>by first|(simp [entryFrame,mkF,argsToLocals,Value.category,maxLocals]; done)|rfl) ?_
 intro p e s m below meth c K
 refine Ye 1 K at_0 <|Yd 0 2 K at_1 ?_
 refine Yk [.int p0,.int 0] [] 0 1 2 5 K (hw 0) (hw 1) (hw 2) (hw 3) (own_po0 @hw) (lenOf pd_11 rfl) at_2 ?_
 rintro _ dk ⟨b0,rfl,hpo⟩
 obtain ⟨E0,rfl,hps0⟩ : ∃ D : oDsc,dk=[(b0,D)]∧oPs D:=by rcases hpo with ⟨x0,rfl,h1,h2⟩|⟨x0,x1,rfl,h1,h2,h3⟩; exact ⟨_,rfl,Or.inl ⟨_,rfl,h1,h2⟩⟩; exact ⟨_,rfl,Or.inr ⟨_,_,rfl,h1,h2,h3⟩⟩
 refine Hc 7 K at_5 U5 <|Ye 8 K at_7 <|Yd 1 9 K at_8 ?_
 refine Yk [.int p1,.int 1] [] 0 2 4 12 K (hw 0) (hw 1) (hw 2) (hw 3) (own_po1 @hw) (lenOf pd_11 rfl) at_9 ?_
 rintro _ dk ⟨b1,rfl,hpo⟩
 obtain ⟨E1,rfl,hps1⟩ : ∃ D : oDsc,dk=[(b0,E0),(b1,D)]∧oPs D:=by rcases hpo with ⟨x0,rfl,h1,h2⟩|⟨x0,x1,rfl,h1,h2,h3⟩; exact ⟨_,rfl,Or.inl ⟨_,rfl,h1,h2⟩⟩; exact ⟨_,rfl,Or.inr ⟨_,_,rfl,h1,h2,h3⟩⟩
 refine Hc 14 K at_12 U6 <|Ye 15 K at_14 <|Yd 2 16 K at_15 ?_
 refine Yk [.int p2,.int 2] [] 0 3 6 19 K (hw 0) (hw 1) (hw 2) (hw 3) (own_po2 @hw) (lenOf pd_11 rfl) at_16 ?_
 rintro _ dk ⟨b2,rfl,hpo⟩
 obtain ⟨E2,rfl,hps2⟩ : ∃ D : oDsc,dk=[(b0,E0),(b1,E1),(b2,D)]∧oPs D:=by rcases hpo with ⟨x0,rfl,h1,h2⟩|⟨x0,x1,rfl,h1,h2,h3⟩; exact ⟨_,rfl,Or.inl ⟨_,rfl,h1,h2⟩⟩; exact ⟨_,rfl,Or.inr ⟨_,_,rfl,h1,h2,h3⟩⟩
 refine Hc 21 K at_19 U7 ?_
 refine oW.join (F:=fun z : Int32=>1≤z.toInt∧z.toInt≤1000) (pcj:=29) (Lf:=fun z=>#[.val (.int p0),.val (.int p1),.val (.int p2),.val (.int p3),.val (.int p4),.val (.ref b0),.val (.ref b1),.val (.ref b2),.unset,.unset,.unset,.unset,.unset,.unset,.unset,.unset,.unset,.unset]) (Sf:=fun z=>[.int z]) (dsf:=fun z=>[(b0,E0),(b1,E1),(b2,E2)]) ?_ ?_
 ·intro J
  rcases hps0 with ⟨x0,rfl,hxa,hxb⟩|⟨x0,x1,rfl,hxa,hxb,hxc⟩
  ·refine Yh 23 K at_21 <|Yh 25 K at_23 <|Yf 0 1 26 K at_25 <|Yd 1 27 K at_26 ?_
   refine Y4 0 28 K at_27 <|Yn 0 0 29 K at_28 ?_
   exact J x0 (by omega)
  refine Yh 23 K at_21 <|Yh 25 K at_23 <|Yf 0 2 26 K at_25 <|Yd 1 27 K at_26 ?_
  refine Y4 1 28 K at_27 <|Yn 0 1 29 K at_28 ?_
  exact J x1 (by omega)
 intro mm0 hmm0
 refine oW.join (F:=fun z : Int32=>1≤z.toInt∧z.toInt≤1000) (pcj:=37) (Lf:=fun z=>#[.val (.int p0),.val (.int p1),.val (.int p2),.val (.int p3),.val (.int p4),.val (.ref b0),.val (.ref b1),.val (.ref b2),.unset,.unset,.unset,.unset,.unset,.unset,.unset,.unset,.unset,.unset]) (Sf:=fun z=>[.int z,.int mm0]) (dsf:=fun z=>[(b0,E0),(b1,E1),(b2,E2)]) ?_ ?_
 ·intro J
  rcases hps1 with ⟨y0,rfl,hya,hyb⟩|⟨y0,y1,rfl,hya,hyb,hyc⟩
  ·refine Yh 31 K at_29 <|Yh 33 K at_31 <|Yf 1 1 34 K at_33 <|Yd 1 35 K at_34 ?_
   refine Y4 0 36 K at_35 <|Yn 1 0 37 K at_36 ?_
   exact J y0 (by omega)
  refine Yh 31 K at_29 <|Yh 33 K at_31 <|Yf 1 2 34 K at_33 <|Yd 1 35 K at_34 ?_
  refine Y4 1 36 K at_35 <|Yn 1 1 37 K at_36 ?_
  exact J y1 (by omega)
 intro mm1 hmm1
 refine oW.join (F:=fun z : Int32=>1≤z.toInt∧z.toInt≤1000) (pcj:=45) (Lf:=fun z=>#[.val (.int p0),.val (.int p1),.val (.int p2),.val (.int p3),.val (.int p4),.val (.ref b0),.val (.ref b1),.val (.ref b2),.unset,.unset,.unset,.unset,.unset,.unset,.unset,.unset,.unset,.unset]) (Sf:=fun z=>[.int z,.int mm1,.int mm0]) (dsf:=fun z=>[(b0,E0),(b1,E1),(b2,E2)]) ?_ ?_
 ·intro J
  rcases hps2 with ⟨u0,rfl,hua,hub⟩|⟨u0,u1,rfl,hua,hub,huc⟩
  ·refine Yh 39 K at_37 <|Yh 41 K at_39 <|Yf 2 1 42 K at_41 <|Yd 1 43 K at_42 ?_
   refine Y4 0 44 K at_43 <|Yn 2 0 45 K at_44 ?_
   exact J u0 (by omega)
  refine Yh 39 K at_37 <|Yh 41 K at_39 <|Yf 2 2 42 K at_41 <|Yd 1 43 K at_42 ?_
  refine Y4 1 44 K at_43 <|Yn 2 1 45 K at_44 ?_
  exact J u1 (by omega)
 intro mm2 hmm2
 refine Yk [.int mm1,.int mm2] [.int mm0] 1 3 6 48 K (hw 5) (hw 6) (hw 7) (hw 8) (own_max @hw) (lenOf pd_9 rfl) at_45 ?_
 rintro _ _ ⟨mm45,rfl,tmm45,rfl⟩
 refine Yk [.int mm0,.int mm45] [] 0 3 6 51 K (hw 5) (hw 6) (hw 7) (hw 8) (own_max @hw) (lenOf pd_9 rfl) at_48 ?_
 rintro _ _ ⟨mm48,rfl,tmm48,rfl⟩
 have hmb : 1≤mm48.toInt∧mm48.toInt≤1000:=by clear hps0 hps1 hps2; omega
 clear tmm48 tmm45
 refine Yj 53 K at_51 U8 <|Yb 55 K at_53 <|Ye 56 K at_55 <|Yd 3 57 K at_56 ?_
 obtain ⟨v57,ev57⟩:=oE (XT.ushr p3 (3 : Int32) : Int32)
 refine G4 58 K at_57 ev57 <|Gt 7 60 K at_58 ?_
 obtain ⟨v60,ev60⟩:=oE (v57 &&& (7 : Int32) : Int32)
 refine Gp 61 K at_60 ev60 ?_
 have tv60:=oMaskR 7 (by decide) ev60
 obtain ⟨v61,ev61⟩:=oE (mm48 + v60 : Int32)
 refine Y0 62 K at_61 ev61 ?_
 have tv61:=oIadd ev61 oOm
 try simp only [Int32.reduceToInt,Int64.reduceToInt] at tv61
 refine Yj 64 K at_62 U9 <|Yd 2 65 K at_64 <|Yb 67 K at_65 <|Gt 63 69 K at_67 ?_
 obtain ⟨v69,ev69⟩:=oE (p4 &&& (63 : Int32) : Int32)
 refine Gp 70 K at_69 ev69 ?_
 have tv69:=oMaskR 63 (by decide) ev69
 obtain ⟨v70,ev70⟩:=oE ((2 : Int32) + v69 : Int32)
 refine Y0 71 K at_70 ev70 ?_
 have tv70:=oIadd ev70 oOm
 try simp only [Int32.reduceToInt,Int64.reduceToInt] at tv70
 obtain ⟨v71,ev71⟩:=oE (FP.i2d v70 : UInt64)
 refine Gh 72 K at_71 ev71 ?_
 refine Hr #[.val (.int p0),.val (.int p1),.val (.int p2),.val (.int p3),.val (.int p4),.val (.ref b0),.val (.ref b1),.val (.ref b2),.val (.int mm48),.val (.int v61),.val (.double v71),.second,.unset,.unset,.unset,.unset,.unset,.unset] 74 K at_72 <|Yd 1 75 K at_74 <|Yb 77 K at_75 <|Gt 6 79 K at_77 ?_
 obtain ⟨v79,ev79⟩:=oE (XT.ushr p4 (6 : Int32) : Int32)
 refine G4 80 K at_79 ev79 <|Gt 63 82 K at_80 ?_
 obtain ⟨v82,ev82⟩:=oE (v79 &&& (63 : Int32) : Int32)
 refine Gp 83 K at_82 ev82 ?_
 have tv82:=oMaskR 63 (by decide) ev82
 obtain ⟨v83,ev83⟩:=oE ((1 : Int32) + v82 : Int32)
 refine Y0 84 K at_83 ev83 ?_
 have tv83:=oIadd ev83 oOm
 try simp only [Int32.reduceToInt,Int64.reduceToInt] at tv83
 obtain ⟨v84,ev84⟩:=oE (FP.i2d v83 : UInt64)
 refine Gh 85 K at_84 ev84 ?_
 refine Hr #[.val (.int p0),.val (.int p1),.val (.int p2),.val (.int p3),.val (.int p4),.val (.ref b0),.val (.ref b1),.val (.ref b2),.val (.int mm48),.val (.int v61),.val (.double v71),.second,.val (.double v84),.second,.unset,.unset,.unset,.unset] 87 K at_85 <|Ye 88 K at_87 <|Yd 1 89 K at_88 ?_
 obtain ⟨v89,ev89⟩:=oE (XT.ushr p3 (1 : Int32) : Int32)
 refine G4 90 K at_89 ev89 <|Yd 3 91 K at_90 ?_
 obtain ⟨v91,ev91⟩:=oE (v89 &&& (3 : Int32) : Int32)
 refine Gp 92 K at_91 ev91 ?_
 have tv91:=oMaskR 3 (by decide) ev91
 refine Yd 3 93 K at_92 ?_
 obtain ⟨v93,ev93⟩:=oE (v91 % (3 : Int32) : Int32)
 refine Hy 94 K at_93 ev93 ?_
 have tv93:=oRem 3 ev93 (by decide) (by omega)
 refine oW.join (F:=fun z : Int32 × Addr=>(z.1=0∧b0=z.2)∨(z.1=1∧b1=z.2)∨(z.1=2∧b2=z.2)) (pcj:=121) (Lf:=fun z=>#[.val (.int p0),.val (.int p1),.val (.int p2),.val (.int p3),.val (.int p4),.val (.ref b0),.val (.ref b1),.val (.ref b2),.val (.int mm48),.val (.int v61),.val (.double v71),.second,.val (.double v84),.second,.val (.int z.1),.val (.ref z.2),.unset,.unset]) (Sf:=fun z=>[]) (dsf:=fun z=>[(b0,E0),(b1,E1),(b2,E2)]) ?_ ?_
 ·intro J
  have hv93 : v93=0∨v93=1∨v93=2:=by simp only [oEq32,Int32.reduceToInt]; omega
  rcases hv93 with hv93|hv93|hv93
  ·subst hv93
   refine Yj 96 K at_94 U14 <|Yb 98 K at_96 ?_
   refine Gc 106 101 K at_98 <|Yh 103 K at_101 <|Yi 119 K at_103 ?_
   refine Hc 121 K at_119 U15 ?_
   exact J ((0 : Int32),b0) (Or.inl ⟨rfl,rfl⟩)
  ·subst hv93
   refine Yj 96 K at_94 U14 <|Yb 98 K at_96 ?_
   refine Hi 106 101 K at_98 <|Yb 108 K at_106 <|Yd 1 109 K at_108 ?_
   refine Gr 117 112 K at_109 <|Yh 114 K at_112 <|Yi 119 K at_114 ?_
   refine Hc 121 K at_119 U15 ?_
   exact J ((1 : Int32),b1) (Or.inr (Or.inl ⟨rfl,rfl⟩))
  subst hv93
  refine Yj 96 K at_94 U14 <|Yb 98 K at_96 ?_
  refine Hi 106 101 K at_98 <|Yb 108 K at_106 <|Yd 1 109 K at_108 ?_
  refine Gj 117 112 K at_109 <|Yh 119 K at_117 ?_
  refine Hc 121 K at_119 U15 ?_
  exact J ((2 : Int32),b2) (Or.inr (Or.inr ⟨rfl,rfl⟩))
 rintro ⟨vc,bw⟩ hvc
 dsimp only at hvc ⊢
 refine H2 (oF .null .null .null .null .null .null .null .null .null .null (.int 0) .null (.int 0) (.int 0) (.int 0) (.int 0) (.int 0) (.int 0) (.int 0) (.int 0)) 4 26 (fun z=>[(b0,E0),(b1,E1),(b2,E2),(z,oO .null .null .null .null .null .null .null .null .null .null (.int 0) .null (.int 0) (.int 0) (.int 0) (.int 0) (.int 0) (.int 0) (.int 0) (.int 0))]) 124 K (hw 9) (hw 10) (hw 11) (oLd_0 @hw) at_121 ?_
 intro a121 ha121
 obtain ⟨b3,hb3⟩ : ∃ x : Addr,x=a121:=⟨_,rfl⟩
 subst hb3
 refine Yv 125 K at_124 <|Yd 3 126 K at_125 ?_
 refine H4 b3 [.int 3] [.ref b3] 1 14 44 129 K (hw 12) (hw 13) (hw 11) (hw 14) (own_init @hw) (lenOf pd_12 rfl) at_126 ?_
 rintro _ ⟨b4,b5,b6,b7,b8,b9,b10,b11,b12,b13,rfl⟩
 refine Hc 131 K at_129 U16 <|Yh 133 K at_131 <|Yb 135 K at_133 ?_
 refine Y7 b3 [.int v61] [] 0 14 44 138 K (hw 47) (hw 48) (hw 50) (hw 49) (hw 51) (hw 11) (oNF (hw 50)) (own_start @hw) (lenOf pd_12 rfl) at_135 ?_
 rintro _ rfl
 rcases hps0 with ⟨x0,rfl,hxa,hxb⟩|⟨x0,x1,rfl,hxa,hxb,hxc⟩<;>rcases hps1 with ⟨y0,rfl,hya,hyb⟩|⟨y0,y1,rfl,hya,hyb,hyc⟩
 ·refine Yh 140 K at_138 <|Yd 0 141 K at_140 <|Yh 143 K at_141 ?_
  refine Y7 b3 [.int 0,.ref b0] [] 0 17 68 146 K (hw 67) (hw 68) (hw 70) (hw 69) (hw 71) (hw 11) (oNF (hw 70)) (own_add0_0_1 @hw (by omega) trivial) (lenOf pd_15 rfl) at_143 ?_
  rintro _ ⟨c10,c11,c12,cz0,rfl,hchc,hmc⟩
  have wd_cz0 : cz0.toInt % 4294967296≤0:=by rcases (hmc cz0.toInt).mp (rfl) with h<;>omega
  refine Yh 148 K at_146 <|Yd 1 149 K at_148 <|Yh 151 K at_149 ?_
  refine Y7 b3 [.int 1,.ref b1] [] 0 20 92 154 K (hw 67) (hw 68) (hw 70) (hw 69) (hw 71) (hw 11) (oNF (hw 70)) (own_add1_1_11 @hw (by omega) hchc (by omega)) (lenOf pd_15 rfl) at_151 ?_
  rintro _ ⟨d10,d11,d12,dz0,dz1,rfl,hchd,hmd⟩
  have hmd':=fun v : Int=>(hmd v).trans (or_congr (hmc v) Iff.rfl)
  have wd_dz0 : dz0.toInt % 4294967296≤1:=by rcases (hmd' dz0.toInt).mp (Or.inl rfl) with (h)|(h)<;>omega
  have wd_dz1 : dz1.toInt % 4294967296≤1:=by rcases (hmd' dz1.toInt).mp (Or.inr (rfl)) with (h)|(h)<;>omega
  have hO : oEnt [dz0,dz1] 2 2:=(oEntOf (es:=[dz0,dz1]) (rest:=[]) rfl (fun x hx=>by simp only [List.mem_cons,List.not_mem_nil,or_false] at hx; have hy : x.toInt=dz0.toInt∨x.toInt=dz1.toInt:=(by rcases hx with rfl|rfl<;>simp); rcases (hmd' x.toInt).mp hy with (h)|(h)<;>exact oPW h (by omega) (by decide)))
  have hS : oSrt [dz0,dz1] 2:=(oSrtOf (es:=[dz0,dz1]) (rest:=[]) hchd rfl)
  obtain ⟨ti00,tx00,ht00⟩ : ∃ (i : Nat) (x : Int64),i < 2∧([dz0,dz1] : List Int64)[i]?=some x∧x.toInt=x0.toInt * 4294967296 + 0:=(fun h=>h.elim (fun h=>⟨0,dz0,by decide,rfl,h.symm⟩) (fun h=>⟨1,dz1,by decide,rfl,h.symm⟩)) ((hmd' _).mpr (Or.inl (rfl)))
  have hC0 : ∀ (i : Nat) (x : Int64) (p : Int),i < 2→([dz0,dz1] : List Int64)[i]?=some x→x.toInt=p * 4294967296 + 0→p=x0.toInt:=(fun i x p hi q e=>by have hx:=List.mem_of_getElem? (oApp (es:=[dz0,dz1]) (rest:=[]) hi q); simp only [List.mem_cons,List.not_mem_nil,or_false] at hx; have hy : x.toInt=dz0.toInt∨x.toInt=dz1.toInt:=(by rcases hx with rfl|rfl<;>simp); rcases (hmd' x.toInt).mp hy with (h)|(h)<;>omega)
  obtain ⟨ti10,tx10,ht10⟩ : ∃ (i : Nat) (x : Int64),i < 2∧([dz0,dz1] : List Int64)[i]?=some x∧x.toInt=y0.toInt * 4294967296 + 1:=(fun h=>h.elim (fun h=>⟨0,dz0,by decide,rfl,h.symm⟩) (fun h=>⟨1,dz1,by decide,rfl,h.symm⟩)) ((hmd' _).mpr (Or.inr (rfl)))
  have hC1 : ∀ (i : Nat) (x : Int64) (p : Int),i < 2→([dz0,dz1] : List Int64)[i]?=some x→x.toInt=p * 4294967296 + 1→p=y0.toInt:=(fun i x p hi q e=>by have hx:=List.mem_of_getElem? (oApp (es:=[dz0,dz1]) (rest:=[]) hi q); simp only [List.mem_cons,List.not_mem_nil,or_false] at hx; have hy : x.toInt=dz0.toInt∨x.toInt=dz1.toInt:=(by rcases hx with rfl|rfl<;>simp); rcases (hmd' x.toInt).mp hy with (h)|(h)<;>omega)
  refine Ye 155 K at_154 <|Yd 1 156 K at_155 ?_
  obtain ⟨v156,ev156⟩:=oE (p3 &&& (1 : Int32) : Int32)
  refine Gp 157 K at_156 ev156 ?_
  have tv156:=oMaskR 1 (by decide) ev156
  refine Hf 168 160 K at_157 (fun c157=>?_) (fun c157=>?_)
  ·refine Yh 170 K at_168 ?_
   refine Y7 b3 [] [] 0 20 92 173 K (hw 155) (hw 53) (hw 55) (hw 54) (hw 56) (hw 11) (oNF (hw 55)) (own_clear2 @hw) (lenOf pd_4 rfl) at_170 ?_
   rintro _ rfl
   rcases hvc with ⟨ev,eb⟩|⟨ev,eb⟩|⟨ev,eb⟩<;>subst ev<;>subst eb
   ·refine Yh 175 K at_173 <|Yb 177 K at_175 <|Yh 179 K at_177 ?_
    refine Y7 b3 [.int 0,.ref b0] [] 0 23 116 182 K (hw 67) (hw 68) (hw 70) (hw 69) (hw 71) (hw 11) (oNF (hw 70)) (own_add2_0_1 @hw ) (lenOf pd_15 rfl) at_179 ?_
    rintro _ rfl
    refine Yh 184 K at_182 <|Gb 186 K at_184 ?_
    have hwh2:=oWhI ev84 (by omega)
    have hwv2:=oI2D ev84
    refine Yu b3 [.double v84] [] 0 24 118 189 K (hw 93) (hw 94) (hw 96) (hw 95) (hw 97) (hw 11) (oNF (hw 96)) (own_find1_1_0 @hw (ocs:=[dz0,dz1]) (cnt:=2) (rds:=[0,0]) (cvs:=[.int 0,.int 0]) (ch:=0) (by omega) (by decide) hO hS (Nat.le_of_ble_eq_true rfl) hSt hwh2 hwv2 (by omega) (by omega) (by omega) ⟨Nat.le_of_ble_eq_true rfl,Nat.le_of_ble_eq_true rfl⟩ (Nat.le_of_ble_eq_true rfl) (by decide) (by decide) (by decide) (by decide) ht00 hC0) (lenOf pd_19 rfl) at_186 ?_
    rintro _ _ ⟨j13,rdsE,rfl,rfl,hlE⟩
    refine Yj 191 K at_189 U17 <|Yb 193 K at_191 <|Yh 195 K at_193 <|Yf 0 1 196 K at_195 ?_
    refine Yx 201 199 K at_196 <|Yh 203 K at_201 <|Yd 0 204 K at_203 ?_
    refine Yu b3 [.int 0] [] 0 24 118 207 K (hw 184) (hw 185) (hw 187) (hw 186) (hw 188) (hw 11) (oNF (hw 187)) (own_len0 @hw (oLen0 (Nat.le_of_ble_eq_true rfl))) (lenOf pd_20 rfl) at_204 ?_
    rintro _ _ ⟨rfl,rfl⟩
    refine Yd 1 208 K at_207 ?_
    refine Yx 213 211 K at_208 <|Yh 215 K at_213 <|Yf 0 1 216 K at_215 <|Yd 2 217 K at_216 ?_
    refine Gj 232 220 K at_217 <|Yd 1 233 K at_232 ?_
    exact Y5 K at_233 ⟨_,rfl,rfl⟩
   ·refine Yh 175 K at_173 <|Yb 177 K at_175 <|Yh 179 K at_177 ?_
    refine Y7 b3 [.int 1,.ref b1] [] 0 23 116 182 K (hw 67) (hw 68) (hw 70) (hw 69) (hw 71) (hw 11) (oNF (hw 70)) (own_add2_1_11 @hw ) (lenOf pd_15 rfl) at_179 ?_
    rintro _ rfl
    refine Yh 184 K at_182 <|Gb 186 K at_184 ?_
    have hwh2:=oWhI ev84 (by omega)
    have hwv2:=oI2D ev84
    refine oPk3 ?_
    refine Yu b3 [.double v84] [] 0 24 118 189 K (hw 93) (hw 94) (hw 96) (hw 95) (hw 97) (hw 11) (oNF (hw 96)) (own_find1_1_0 @hw (ocs:=[dz0,dz1]) (cnt:=2) (rds:=[0,0]) (cvs:=[.int 0,.int 0]) (ch:=1) (by omega) (by decide) hO hS (Nat.le_of_ble_eq_true rfl) hSt hwh2 hwv2 (by omega) (by omega) (by omega) ⟨Nat.le_of_ble_eq_true rfl,Nat.le_of_ble_eq_true rfl⟩ (Nat.le_of_ble_eq_true rfl) (by decide) (by decide) (by decide) (by decide) ht10 hC1) (lenOf pd_19 rfl) at_186 ?_
    rintro _ _ ⟨j13,rdsE,rfl,rfl,hlE⟩
    refine Yj 191 K at_189 U17 <|Yb 193 K at_191 <|Yh 195 K at_193 <|Yf 0 1 196 K at_195 ?_
    refine Yx 201 199 K at_196 <|Yh 203 K at_201 <|Yd 0 204 K at_203 ?_
    refine Yu b3 [.int 0] [] 0 24 118 207 K (hw 184) (hw 185) (hw 187) (hw 186) (hw 188) (hw 11) (oNF (hw 187)) (own_len0 @hw (oLen0 (Nat.le_of_ble_eq_true rfl))) (lenOf pd_20 rfl) at_204 ?_
    rintro _ _ ⟨rfl,rfl⟩
    refine Yd 1 208 K at_207 ?_
    refine Yx 213 211 K at_208 <|Yh 215 K at_213 <|Yf 0 1 216 K at_215 <|Yd 2 217 K at_216 ?_
    refine Gj 232 220 K at_217 <|Yd 1 233 K at_232 ?_
    exact Y5 K at_233 ⟨_,rfl,rfl⟩
   rcases hps2 with ⟨u0,rfl,hua,hub⟩|⟨u0,u1,rfl,hua,hub,huc⟩
   ·refine Yh 175 K at_173 <|Yb 177 K at_175 <|Yh 179 K at_177 ?_
    refine Y7 b3 [.int 2,.ref b2] [] 0 23 116 182 K (hw 67) (hw 68) (hw 70) (hw 69) (hw 71) (hw 11) (oNF (hw 70)) (own_add3_2_111 @hw (by omega) hchd (by omega) (by omega)) (lenOf pd_15 rfl) at_179 ?_
    rintro _ ⟨k10,k11,k12,kz0,kz1,kz2,rfl,hchk,hmk⟩
    have hmk':=fun v : Int=>(hmk v).trans (or_congr (hmd' v) Iff.rfl)
    have hO : oEnt [kz0,kz1,kz2,0] 3 2:=(oEntOf (es:=[kz0,kz1,kz2]) (rest:=[0]) rfl (fun x hx=>by simp only [List.mem_cons,List.not_mem_nil,or_false] at hx; have hy : x.toInt=kz0.toInt∨x.toInt=kz1.toInt∨x.toInt=kz2.toInt:=(by rcases hx with rfl|rfl|rfl<;>simp); rcases (hmk' x.toInt).mp hy with ((h)|(h))|(h)<;>exact oPW h (by omega) (by decide)))
    have hS : oSrt [kz0,kz1,kz2,0] 3:=(oSrtOf (es:=[kz0,kz1,kz2]) (rest:=[0]) hchk rfl)
    obtain ⟨ti20,tx20,ht20⟩ : ∃ (i : Nat) (x : Int64),i < 3∧([kz0,kz1,kz2,0] : List Int64)[i]?=some x∧x.toInt=u0.toInt * 4294967296 + 2:=(fun h=>h.elim (fun h=>⟨0,kz0,by decide,rfl,h.symm⟩) (fun h=>h.elim (fun h=>⟨1,kz1,by decide,rfl,h.symm⟩) (fun h=>⟨2,kz2,by decide,rfl,h.symm⟩))) ((hmk' _).mpr (Or.inr (rfl)))
    have hC2 : ∀ (i : Nat) (x : Int64) (p : Int),i < 3→([kz0,kz1,kz2,0] : List Int64)[i]?=some x→x.toInt=p * 4294967296 + 2→p=u0.toInt:=(fun i x p hi q e=>by have hx:=List.mem_of_getElem? (oApp (es:=[kz0,kz1,kz2]) (rest:=[0]) hi q); simp only [List.mem_cons,List.not_mem_nil,or_false] at hx; have hy : x.toInt=kz0.toInt∨x.toInt=kz1.toInt∨x.toInt=kz2.toInt:=(by rcases hx with rfl|rfl|rfl<;>simp); rcases (hmk' x.toInt).mp hy with ((h)|(h))|(h)<;>omega)
    refine Yh 184 K at_182 <|Gb 186 K at_184 ?_
    have hwh2:=oWhI ev84 (by omega)
    have hwv2:=oI2D ev84
    refine oPk4 ?_
    refine Yu b3 [.double v84] [] 0 24 118 189 K (hw 93) (hw 94) (hw 96) (hw 95) (hw 97) (hw 11) (oNF (hw 96)) (own_find1_1_0 @hw (ocs:=[kz0,kz1,kz2,0]) (cnt:=3) (rds:=[0,0,0,0]) (cvs:=[.int 0,.int 0,.int 0,.int 0]) (ch:=2) (by omega) (by decide) hO hS (Nat.le_of_ble_eq_true rfl) hSt hwh2 hwv2 (by omega) (by omega) (by omega) ⟨Nat.le_of_ble_eq_true rfl,Nat.le_of_ble_eq_true rfl⟩ (Nat.le_of_ble_eq_true rfl) (by decide) (by decide) (by decide) (by decide) ht20 hC2) (lenOf pd_19 rfl) at_186 ?_
    rintro _ _ ⟨j13,rdsE,rfl,rfl,hlE⟩
    refine Yj 191 K at_189 U17 <|Yb 193 K at_191 <|Yh 195 K at_193 <|Yf 0 1 196 K at_195 ?_
    refine Yx 201 199 K at_196 <|Yh 203 K at_201 <|Yd 0 204 K at_203 ?_
    refine Yu b3 [.int 0] [] 0 24 118 207 K (hw 184) (hw 185) (hw 187) (hw 186) (hw 188) (hw 11) (oNF (hw 187)) (own_len0 @hw (oLen0 (Nat.le_of_ble_eq_true rfl))) (lenOf pd_20 rfl) at_204 ?_
    rintro _ _ ⟨rfl,rfl⟩
    refine Yd 1 208 K at_207 ?_
    refine Yx 213 211 K at_208 <|Yh 215 K at_213 <|Yf 0 1 216 K at_215 <|Yd 2 217 K at_216 ?_
    refine Gj 232 220 K at_217 <|Yd 1 233 K at_232 ?_
    exact Y5 K at_233 ⟨_,rfl,rfl⟩
   refine Yh 175 K at_173 <|Yb 177 K at_175 <|Yh 179 K at_177 ?_
   refine Y7 b3 [.int 2,.ref b2] [] 0 23 116 182 K (hw 67) (hw 68) (hw 70) (hw 69) (hw 71) (hw 11) (oNF (hw 70)) (own_add3_2_112 @hw (by omega) (by omega) (by omega) hchd (by omega) (by omega) (by omega) (by omega)) (lenOf pd_15 rfl) at_179 ?_
   rintro _ ⟨k10,k11,k12,kz0,kz1,kz2,kz3,rfl,hchk,hmk⟩
   have hmk':=fun v : Int=>(hmk v).trans (or_congr (hmd' v) Iff.rfl)
   have hO : oEnt [kz0,kz1,kz2,kz3] 4 2:=(oEntOf (es:=[kz0,kz1,kz2,kz3]) (rest:=[]) rfl (fun x hx=>by simp only [List.mem_cons,List.not_mem_nil,or_false] at hx; have hy : x.toInt=kz0.toInt∨x.toInt=kz1.toInt∨x.toInt=kz2.toInt∨x.toInt=kz3.toInt:=(by rcases hx with rfl|rfl|rfl|rfl<;>simp); rcases (hmk' x.toInt).mp hy with ((h)|(h))|(h|h)<;>exact oPW h (by omega) (by decide)))
   have hS : oSrt [kz0,kz1,kz2,kz3] 4:=(oSrtOf (es:=[kz0,kz1,kz2,kz3]) (rest:=[]) hchk rfl)
   obtain ⟨ti20,tx20,ht20⟩ : ∃ (i : Nat) (x : Int64),i < 4∧([kz0,kz1,kz2,kz3] : List Int64)[i]?=some x∧x.toInt=u0.toInt * 4294967296 + 2:=(fun h=>h.elim (fun h=>⟨0,kz0,by decide,rfl,h.symm⟩) (fun h=>h.elim (fun h=>⟨1,kz1,by decide,rfl,h.symm⟩) (fun h=>h.elim (fun h=>⟨2,kz2,by decide,rfl,h.symm⟩) (fun h=>⟨3,kz3,by decide,rfl,h.symm⟩)))) ((hmk' _).mpr (Or.inr (Or.inl rfl)))
   obtain ⟨ti21,tx21,ht21⟩ : ∃ (i : Nat) (x : Int64),i < 4∧([kz0,kz1,kz2,kz3] : List Int64)[i]?=some x∧x.toInt=u1.toInt * 4294967296 + 2:=(fun h=>h.elim (fun h=>⟨0,kz0,by decide,rfl,h.symm⟩) (fun h=>h.elim (fun h=>⟨1,kz1,by decide,rfl,h.symm⟩) (fun h=>h.elim (fun h=>⟨2,kz2,by decide,rfl,h.symm⟩) (fun h=>⟨3,kz3,by decide,rfl,h.symm⟩)))) ((hmk' _).mpr (Or.inr (Or.inr (rfl))))
   have hC2 : ∀ (i : Nat) (x : Int64) (p : Int),i < 4→([kz0,kz1,kz2,kz3] : List Int64)[i]?=some x→x.toInt=p * 4294967296 + 2→p=u0.toInt∨p=u1.toInt:=(fun i x p hi q e=>by have hx:=List.mem_of_getElem? (oApp (es:=[kz0,kz1,kz2,kz3]) (rest:=[]) hi q); simp only [List.mem_cons,List.not_mem_nil,or_false] at hx; have hy : x.toInt=kz0.toInt∨x.toInt=kz1.toInt∨x.toInt=kz2.toInt∨x.toInt=kz3.toInt:=(by rcases hx with rfl|rfl|rfl|rfl<;>simp); rcases (hmk' x.toInt).mp hy with ((h)|(h))|(h|h)<;>omega)
   refine Yh 184 K at_182 <|Gb 186 K at_184 ?_
   have hwh2:=oWhI ev84 (by omega)
   have hwv2:=oI2D ev84
   refine oPk4 ?_
   refine Yu b3 [.double v84] [] 0 24 118 189 K (hw 93) (hw 94) (hw 96) (hw 95) (hw 97) (hw 11) (oNF (hw 96)) (own_find1_2_0 @hw (ocs:=[kz0,kz1,kz2,kz3]) (cnt:=4) (rds:=[0,0,0,0]) (cvs:=[.int 0,.int 0,.int 0,.int 0]) (ch:=2) (by omega) (by omega) (by omega) (by decide) hO hS (Nat.le_of_ble_eq_true rfl) hSt hwh2 hwv2 (by omega) (by omega) (by omega) ⟨Nat.le_of_ble_eq_true rfl,Nat.le_of_ble_eq_true rfl⟩ (Nat.le_of_ble_eq_true rfl) (by decide) (by decide) (by decide) (by decide) ht20 ht21 hC2) (lenOf pd_19 rfl) at_186 ?_
   rintro _ _ ⟨j13,rdsE,rfl,rfl,hlE⟩
   refine Yj 191 K at_189 U17 <|Yb 193 K at_191 <|Yh 195 K at_193 <|Yf 0 2 196 K at_195 ?_
   refine Yx 201 199 K at_196 <|Yh 203 K at_201 <|Yd 0 204 K at_203 ?_
   refine Yu b3 [.int 0] [] 0 24 118 207 K (hw 184) (hw 185) (hw 187) (hw 186) (hw 188) (hw 11) (oNF (hw 187)) (own_len0 @hw (oLen0' (Nat.le_of_ble_eq_true rfl))) (lenOf pd_20 rfl) at_204 ?_
   rintro _ _ ⟨rfl,rfl⟩
   refine Yd 1 208 K at_207 ?_
   refine Yx 213 211 K at_208 <|Yh 215 K at_213 <|Yf 0 2 216 K at_215 <|Yd 2 217 K at_216 ?_
   refine Gr 232 220 K at_217 <|Yh 222 K at_220 <|Yd 1 223 K at_222 ?_
   refine Yu b3 [.int 1] [] 0 24 118 226 K (hw 184) (hw 185) (hw 187) (hw 186) (hw 188) (hw 11) (oNF (hw 187)) (own_len1 @hw (oLen1 (Nat.le_of_ble_eq_true rfl))) (lenOf pd_20 rfl) at_223 ?_
   rintro _ _ ⟨rfl,rfl⟩
   refine Yd 1 227 K at_226 ?_
   refine Yx 232 230 K at_227 <|Yd 1 233 K at_232 ?_
   exact Y5 K at_233 ⟨_,rfl,rfl⟩
  refine Yh 162 K at_160 <|Gb 164 K at_162 ?_
  have hwh1:=oWhI ev71 (by omega)
  have hwv1:=oI2D ev71
  refine Yu b3 [.double v71] [] 0 21 94 167 K (hw 93) (hw 94) (hw 96) (hw 95) (hw 97) (hw 11) (oNF (hw 96)) (own_find2_11 @hw (ocs:=[dz0,dz1]) (cnt:=2) (rds:=[0,0]) (cvs:=[.int 0,.int 0]) (by omega) (by omega) (by decide) hO hS (Nat.le_of_ble_eq_true rfl) hSt hwh1 hwv1 (by omega) (by omega) (by omega) ⟨Nat.le_of_ble_eq_true rfl,Nat.le_of_ble_eq_true rfl⟩ ⟨Nat.le_of_ble_eq_true rfl,Nat.le_of_ble_eq_true rfl⟩) (lenOf pd_19 rfl) at_164 ?_
  rintro _ _ ⟨i13,q0,rdsF,cvsF,ccF,rfl,rfl,hlr,hlc⟩
  have hlr' : rdsF.length=2:=hlr
  have hlc' : cvsF.length=2:=hlc
  refine Hk 168 K at_167 <|Yh 170 K at_168 ?_
  refine Y7 b3 [] [] 0 21 94 173 K (hw 155) (hw 53) (hw 55) (hw 54) (hw 56) (hw 11) (oNF (hw 55)) (own_clear2 @hw) (lenOf pd_4 rfl) at_170 ?_
  rintro _ rfl
  rcases hvc with ⟨ev,eb⟩|⟨ev,eb⟩|⟨ev,eb⟩<;>subst ev<;>subst eb
  ·refine Yh 175 K at_173 <|Yb 177 K at_175 <|Yh 179 K at_177 ?_
   refine Y7 b3 [.int 0,.ref b0] [] 0 24 118 182 K (hw 67) (hw 68) (hw 70) (hw 69) (hw 71) (hw 11) (oNF (hw 70)) (own_add2_0_1 @hw ) (lenOf pd_15 rfl) at_179 ?_
   rintro _ rfl
   refine Yh 184 K at_182 <|Gb 186 K at_184 ?_
   have hwh2:=oWhI ev84 (by omega)
   have hwv2:=oI2D ev84
   refine Yu b3 [.double v84] [] 0 25 120 189 K (hw 93) (hw 94) (hw 96) (hw 95) (hw 97) (hw 11) (oNF (hw 96)) (own_find1_1_1 @hw (ocs:=[dz0,dz1]) (cnt:=2) (rds:=rdsF) (cvs:=cvsF) (ch:=0) (by omega) (by decide) hO hS (Nat.le_of_ble_eq_true rfl) hSt hwh2 hwv2 (by omega) (by omega) (by omega) ⟨by omega,by omega⟩ (by omega) (by decide) (by decide) (by decide) (by decide) ht00 hC0) (lenOf pd_19 rfl) at_186 ?_
   rintro _ _ ⟨j13,rdsE,rfl,rfl,hlE⟩
   refine Yj 191 K at_189 U17 <|Yb 193 K at_191 <|Yh 195 K at_193 <|Yf 0 1 196 K at_195 ?_
   refine Yx 201 199 K at_196 <|Yh 203 K at_201 <|Yd 0 204 K at_203 ?_
   refine Yu b3 [.int 0] [] 0 25 120 207 K (hw 184) (hw 185) (hw 187) (hw 186) (hw 188) (hw 11) (oNF (hw 187)) (own_len0 @hw (oLen0 (by omega))) (lenOf pd_20 rfl) at_204 ?_
   rintro _ _ ⟨rfl,rfl⟩
   refine Yd 1 208 K at_207 ?_
   refine Yx 213 211 K at_208 <|Yh 215 K at_213 <|Yf 0 1 216 K at_215 <|Yd 2 217 K at_216 ?_
   refine Gj 232 220 K at_217 <|Yd 1 233 K at_232 ?_
   exact Y5 K at_233 ⟨_,rfl,rfl⟩
  ·refine Yh 175 K at_173 <|Yb 177 K at_175 <|Yh 179 K at_177 ?_
   refine Y7 b3 [.int 1,.ref b1] [] 0 24 118 182 K (hw 67) (hw 68) (hw 70) (hw 69) (hw 71) (hw 11) (oNF (hw 70)) (own_add2_1_11 @hw ) (lenOf pd_15 rfl) at_179 ?_
   rintro _ rfl
   refine Yh 184 K at_182 <|Gb 186 K at_184 ?_
   have hwh2:=oWhI ev84 (by omega)
   have hwv2:=oI2D ev84
   refine oPk3 ?_
   refine Yu b3 [.double v84] [] 0 25 120 189 K (hw 93) (hw 94) (hw 96) (hw 95) (hw 97) (hw 11) (oNF (hw 96)) (own_find1_1_1 @hw (ocs:=[dz0,dz1]) (cnt:=2) (rds:=rdsF) (cvs:=cvsF) (ch:=1) (by omega) (by decide) hO hS (Nat.le_of_ble_eq_true rfl) hSt hwh2 hwv2 (by omega) (by omega) (by omega) ⟨by omega,by omega⟩ (by omega) (by decide) (by decide) (by decide) (by decide) ht10 hC1) (lenOf pd_19 rfl) at_186 ?_
   rintro _ _ ⟨j13,rdsE,rfl,rfl,hlE⟩
   refine Yj 191 K at_189 U17 <|Yb 193 K at_191 <|Yh 195 K at_193 <|Yf 0 1 196 K at_195 ?_
   refine Yx 201 199 K at_196 <|Yh 203 K at_201 <|Yd 0 204 K at_203 ?_
   refine Yu b3 [.int 0] [] 0 25 120 207 K (hw 184) (hw 185) (hw 187) (hw 186) (hw 188) (hw 11) (oNF (hw 187)) (own_len0 @hw (oLen0 (by omega))) (lenOf pd_20 rfl) at_204 ?_
   rintro _ _ ⟨rfl,rfl⟩
   refine Yd 1 208 K at_207 ?_
   refine Yx 213 211 K at_208 <|Yh 215 K at_213 <|Yf 0 1 216 K at_215 <|Yd 2 217 K at_216 ?_
   refine Gj 232 220 K at_217 <|Yd 1 233 K at_232 ?_
   exact Y5 K at_233 ⟨_,rfl,rfl⟩
  rcases hps2 with ⟨u0,rfl,hua,hub⟩|⟨u0,u1,rfl,hua,hub,huc⟩
  ·refine Yh 175 K at_173 <|Yb 177 K at_175 <|Yh 179 K at_177 ?_
   refine Y7 b3 [.int 2,.ref b2] [] 0 24 118 182 K (hw 67) (hw 68) (hw 70) (hw 69) (hw 71) (hw 11) (oNF (hw 70)) (own_add3_2_111 @hw (by omega) hchd (by omega) (by omega)) (lenOf pd_15 rfl) at_179 ?_
   rintro _ ⟨k10,k11,k12,kz0,kz1,kz2,rfl,hchk,hmk⟩
   have hmk':=fun v : Int=>(hmk v).trans (or_congr (hmd' v) Iff.rfl)
   have hO : oEnt [kz0,kz1,kz2,0] 3 2:=(oEntOf (es:=[kz0,kz1,kz2]) (rest:=[0]) rfl (fun x hx=>by simp only [List.mem_cons,List.not_mem_nil,or_false] at hx; have hy : x.toInt=kz0.toInt∨x.toInt=kz1.toInt∨x.toInt=kz2.toInt:=(by rcases hx with rfl|rfl|rfl<;>simp); rcases (hmk' x.toInt).mp hy with ((h)|(h))|(h)<;>exact oPW h (by omega) (by decide)))
   have hS : oSrt [kz0,kz1,kz2,0] 3:=(oSrtOf (es:=[kz0,kz1,kz2]) (rest:=[0]) hchk rfl)
   obtain ⟨ti20,tx20,ht20⟩ : ∃ (i : Nat) (x : Int64),i < 3∧([kz0,kz1,kz2,0] : List Int64)[i]?=some x∧x.toInt=u0.toInt * 4294967296 + 2:=(fun h=>h.elim (fun h=>⟨0,kz0,by decide,rfl,h.symm⟩) (fun h=>h.elim (fun h=>⟨1,kz1,by decide,rfl,h.symm⟩) (fun h=>⟨2,kz2,by decide,rfl,h.symm⟩))) ((hmk' _).mpr (Or.inr (rfl)))
   have hC2 : ∀ (i : Nat) (x : Int64) (p : Int),i < 3→([kz0,kz1,kz2,0] : List Int64)[i]?=some x→x.toInt=p * 4294967296 + 2→p=u0.toInt:=(fun i x p hi q e=>by have hx:=List.mem_of_getElem? (oApp (es:=[kz0,kz1,kz2]) (rest:=[0]) hi q); simp only [List.mem_cons,List.not_mem_nil,or_false] at hx; have hy : x.toInt=kz0.toInt∨x.toInt=kz1.toInt∨x.toInt=kz2.toInt:=(by rcases hx with rfl|rfl|rfl<;>simp); rcases (hmk' x.toInt).mp hy with ((h)|(h))|(h)<;>omega)
   refine Yh 184 K at_182 <|Gb 186 K at_184 ?_
   have hwh2:=oWhI ev84 (by omega)
   have hwv2:=oI2D ev84
   refine oPk4 ?_
   refine Yu b3 [.double v84] [] 0 25 120 189 K (hw 93) (hw 94) (hw 96) (hw 95) (hw 97) (hw 11) (oNF (hw 96)) (own_find1_1_1 @hw (ocs:=[kz0,kz1,kz2,0]) (cnt:=3) (rds:=[0,0,0,0]) (cvs:=[.int 0,.int 0,.int 0,.int 0]) (ch:=2) (by omega) (by decide) hO hS (Nat.le_of_ble_eq_true rfl) hSt hwh2 hwv2 (by omega) (by omega) (by omega) ⟨Nat.le_of_ble_eq_true rfl,Nat.le_of_ble_eq_true rfl⟩ (Nat.le_of_ble_eq_true rfl) (by decide) (by decide) (by decide) (by decide) ht20 hC2) (lenOf pd_19 rfl) at_186 ?_
   rintro _ _ ⟨j13,rdsE,rfl,rfl,hlE⟩
   refine Yj 191 K at_189 U17 <|Yb 193 K at_191 <|Yh 195 K at_193 <|Yf 0 1 196 K at_195 ?_
   refine Yx 201 199 K at_196 <|Yh 203 K at_201 <|Yd 0 204 K at_203 ?_
   refine Yu b3 [.int 0] [] 0 25 120 207 K (hw 184) (hw 185) (hw 187) (hw 186) (hw 188) (hw 11) (oNF (hw 187)) (own_len0 @hw (oLen0 (Nat.le_of_ble_eq_true rfl))) (lenOf pd_20 rfl) at_204 ?_
   rintro _ _ ⟨rfl,rfl⟩
   refine Yd 1 208 K at_207 ?_
   refine Yx 213 211 K at_208 <|Yh 215 K at_213 <|Yf 0 1 216 K at_215 <|Yd 2 217 K at_216 ?_
   refine Gj 232 220 K at_217 <|Yd 1 233 K at_232 ?_
   exact Y5 K at_233 ⟨_,rfl,rfl⟩
  refine Yh 175 K at_173 <|Yb 177 K at_175 <|Yh 179 K at_177 ?_
  refine Y7 b3 [.int 2,.ref b2] [] 0 24 118 182 K (hw 67) (hw 68) (hw 70) (hw 69) (hw 71) (hw 11) (oNF (hw 70)) (own_add3_2_112 @hw (by omega) (by omega) (by omega) hchd (by omega) (by omega) (by omega) (by omega)) (lenOf pd_15 rfl) at_179 ?_
  rintro _ ⟨k10,k11,k12,kz0,kz1,kz2,kz3,rfl,hchk,hmk⟩
  have hmk':=fun v : Int=>(hmk v).trans (or_congr (hmd' v) Iff.rfl)
  have hO : oEnt [kz0,kz1,kz2,kz3] 4 2:=(oEntOf (es:=[kz0,kz1,kz2,kz3]) (rest:=[]) rfl (fun x hx=>by simp only [List.mem_cons,List.not_mem_nil,or_false] at hx; have hy : x.toInt=kz0.toInt∨x.toInt=kz1.toInt∨x.toInt=kz2.toInt∨x.toInt=kz3.toInt:=(by rcases hx with rfl|rfl|rfl|rfl<;>simp); rcases (hmk' x.toInt).mp hy with ((h)|(h))|(h|h)<;>exact oPW h (by omega) (by decide)))
  have hS : oSrt [kz0,kz1,kz2,kz3] 4:=(oSrtOf (es:=[kz0,kz1,kz2,kz3]) (rest:=[]) hchk rfl)
  obtain ⟨ti20,tx20,ht20⟩ : ∃ (i : Nat) (x : Int64),i < 4∧([kz0,kz1,kz2,kz3] : List Int64)[i]?=some x∧x.toInt=u0.toInt * 4294967296 + 2:=(fun h=>h.elim (fun h=>⟨0,kz0,by decide,rfl,h.symm⟩) (fun h=>h.elim (fun h=>⟨1,kz1,by decide,rfl,h.symm⟩) (fun h=>h.elim (fun h=>⟨2,kz2,by decide,rfl,h.symm⟩) (fun h=>⟨3,kz3,by decide,rfl,h.symm⟩)))) ((hmk' _).mpr (Or.inr (Or.inl rfl)))
  obtain ⟨ti21,tx21,ht21⟩ : ∃ (i : Nat) (x : Int64),i < 4∧([kz0,kz1,kz2,kz3] : List Int64)[i]?=some x∧x.toInt=u1.toInt * 4294967296 + 2:=(fun h=>h.elim (fun h=>⟨0,kz0,by decide,rfl,h.symm⟩) (fun h=>h.elim (fun h=>⟨1,kz1,by decide,rfl,h.symm⟩) (fun h=>h.elim (fun h=>⟨2,kz2,by decide,rfl,h.symm⟩) (fun h=>⟨3,kz3,by decide,rfl,h.symm⟩)))) ((hmk' _).mpr (Or.inr (Or.inr (rfl))))
  have hC2 : ∀ (i : Nat) (x : Int64) (p : Int),i < 4→([kz0,kz1,kz2,kz3] : List Int64)[i]?=some x→x.toInt=p * 4294967296 + 2→p=u0.toInt∨p=u1.toInt:=(fun i x p hi q e=>by have hx:=List.mem_of_getElem? (oApp (es:=[kz0,kz1,kz2,kz3]) (rest:=[]) hi q); simp only [List.mem_cons,List.not_mem_nil,or_false] at hx; have hy : x.toInt=kz0.toInt∨x.toInt=kz1.toInt∨x.toInt=kz2.toInt∨x.toInt=kz3.toInt:=(by rcases hx with rfl|rfl|rfl|rfl<;>simp); rcases (hmk' x.toInt).mp hy with ((h)|(h))|(h|h)<;>omega)
  refine Yh 184 K at_182 <|Gb 186 K at_184 ?_
  have hwh2:=oWhI ev84 (by omega)
  have hwv2:=oI2D ev84
  refine oPk4 ?_
  refine Yu b3 [.double v84] [] 0 25 120 189 K (hw 93) (hw 94) (hw 96) (hw 95) (hw 97) (hw 11) (oNF (hw 96)) (own_find1_2_1 @hw (ocs:=[kz0,kz1,kz2,kz3]) (cnt:=4) (rds:=[0,0,0,0]) (cvs:=[.int 0,.int 0,.int 0,.int 0]) (ch:=2) (by omega) (by omega) (by omega) (by decide) hO hS (Nat.le_of_ble_eq_true rfl) hSt hwh2 hwv2 (by omega) (by omega) (by omega) ⟨Nat.le_of_ble_eq_true rfl,Nat.le_of_ble_eq_true rfl⟩ (Nat.le_of_ble_eq_true rfl) (by decide) (by decide) (by decide) (by decide) ht20 ht21 hC2) (lenOf pd_19 rfl) at_186 ?_
  rintro _ _ ⟨j13,rdsE,rfl,rfl,hlE⟩
  refine Yj 191 K at_189 U17 <|Yb 193 K at_191 <|Yh 195 K at_193 <|Yf 0 2 196 K at_195 ?_
  refine Yx 201 199 K at_196 <|Yh 203 K at_201 <|Yd 0 204 K at_203 ?_
  refine Yu b3 [.int 0] [] 0 25 120 207 K (hw 184) (hw 185) (hw 187) (hw 186) (hw 188) (hw 11) (oNF (hw 187)) (own_len0 @hw (oLen0' (Nat.le_of_ble_eq_true rfl))) (lenOf pd_20 rfl) at_204 ?_
  rintro _ _ ⟨rfl,rfl⟩
  refine Yd 1 208 K at_207 ?_
  refine Yx 213 211 K at_208 <|Yh 215 K at_213 <|Yf 0 2 216 K at_215 <|Yd 2 217 K at_216 ?_
  refine Gr 232 220 K at_217 <|Yh 222 K at_220 <|Yd 1 223 K at_222 ?_
  refine Yu b3 [.int 1] [] 0 25 120 226 K (hw 184) (hw 185) (hw 187) (hw 186) (hw 188) (hw 11) (oNF (hw 187)) (own_len1 @hw (oLen1 (Nat.le_of_ble_eq_true rfl))) (lenOf pd_20 rfl) at_223 ?_
  rintro _ _ ⟨rfl,rfl⟩
  refine Yd 1 227 K at_226 ?_
  refine Yx 232 230 K at_227 <|Yd 1 233 K at_232 ?_
  exact Y5 K at_233 ⟨_,rfl,rfl⟩
 ·refine Yh 140 K at_138 <|Yd 0 141 K at_140 <|Yh 143 K at_141 ?_
  refine Y7 b3 [.int 0,.ref b0] [] 0 17 68 146 K (hw 67) (hw 68) (hw 70) (hw 69) (hw 71) (hw 11) (oNF (hw 70)) (own_add0_0_1 @hw (by omega) trivial) (lenOf pd_15 rfl) at_143 ?_
  rintro _ ⟨c10,c11,c12,cz0,rfl,hchc,hmc⟩
  have wd_cz0 : cz0.toInt % 4294967296≤0:=by rcases (hmc cz0.toInt).mp (rfl) with h<;>omega
  refine Yh 148 K at_146 <|Yd 1 149 K at_148 <|Yh 151 K at_149 ?_
  refine Y7 b3 [.int 1,.ref b1] [] 0 20 92 154 K (hw 67) (hw 68) (hw 70) (hw 69) (hw 71) (hw 11) (oNF (hw 70)) (own_add1_1_12 @hw (by omega) (by omega) (by omega) hchc (by omega) (by omega)) (lenOf pd_15 rfl) at_151 ?_
  rintro _ ⟨d10,d11,d12,dz0,dz1,dz2,rfl,hchd,hmd⟩
  have hmd':=fun v : Int=>(hmd v).trans (or_congr (hmc v) Iff.rfl)
  have wd_dz0 : dz0.toInt % 4294967296≤1:=by rcases (hmd' dz0.toInt).mp (Or.inl rfl) with (h)|(h|h)<;>omega
  have wd_dz1 : dz1.toInt % 4294967296≤1:=by rcases (hmd' dz1.toInt).mp (Or.inr (Or.inl rfl)) with (h)|(h|h)<;>omega
  have wd_dz2 : dz2.toInt % 4294967296≤1:=by rcases (hmd' dz2.toInt).mp (Or.inr (Or.inr (rfl))) with (h)|(h|h)<;>omega
  have hO : oEnt [dz0,dz1,dz2] 3 2:=(oEntOf (es:=[dz0,dz1,dz2]) (rest:=[]) rfl (fun x hx=>by simp only [List.mem_cons,List.not_mem_nil,or_false] at hx; have hy : x.toInt=dz0.toInt∨x.toInt=dz1.toInt∨x.toInt=dz2.toInt:=(by rcases hx with rfl|rfl|rfl<;>simp); rcases (hmd' x.toInt).mp hy with (h)|(h|h)<;>exact oPW h (by omega) (by decide)))
  have hS : oSrt [dz0,dz1,dz2] 3:=(oSrtOf (es:=[dz0,dz1,dz2]) (rest:=[]) hchd rfl)
  obtain ⟨ti00,tx00,ht00⟩ : ∃ (i : Nat) (x : Int64),i < 3∧([dz0,dz1,dz2] : List Int64)[i]?=some x∧x.toInt=x0.toInt * 4294967296 + 0:=(fun h=>h.elim (fun h=>⟨0,dz0,by decide,rfl,h.symm⟩) (fun h=>h.elim (fun h=>⟨1,dz1,by decide,rfl,h.symm⟩) (fun h=>⟨2,dz2,by decide,rfl,h.symm⟩))) ((hmd' _).mpr (Or.inl (rfl)))
  have hC0 : ∀ (i : Nat) (x : Int64) (p : Int),i < 3→([dz0,dz1,dz2] : List Int64)[i]?=some x→x.toInt=p * 4294967296 + 0→p=x0.toInt:=(fun i x p hi q e=>by have hx:=List.mem_of_getElem? (oApp (es:=[dz0,dz1,dz2]) (rest:=[]) hi q); simp only [List.mem_cons,List.not_mem_nil,or_false] at hx; have hy : x.toInt=dz0.toInt∨x.toInt=dz1.toInt∨x.toInt=dz2.toInt:=(by rcases hx with rfl|rfl|rfl<;>simp); rcases (hmd' x.toInt).mp hy with (h)|(h|h)<;>omega)
  obtain ⟨ti10,tx10,ht10⟩ : ∃ (i : Nat) (x : Int64),i < 3∧([dz0,dz1,dz2] : List Int64)[i]?=some x∧x.toInt=y0.toInt * 4294967296 + 1:=(fun h=>h.elim (fun h=>⟨0,dz0,by decide,rfl,h.symm⟩) (fun h=>h.elim (fun h=>⟨1,dz1,by decide,rfl,h.symm⟩) (fun h=>⟨2,dz2,by decide,rfl,h.symm⟩))) ((hmd' _).mpr (Or.inr (Or.inl rfl)))
  obtain ⟨ti11,tx11,ht11⟩ : ∃ (i : Nat) (x : Int64),i < 3∧([dz0,dz1,dz2] : List Int64)[i]?=some x∧x.toInt=y1.toInt * 4294967296 + 1:=(fun h=>h.elim (fun h=>⟨0,dz0,by decide,rfl,h.symm⟩) (fun h=>h.elim (fun h=>⟨1,dz1,by decide,rfl,h.symm⟩) (fun h=>⟨2,dz2,by decide,rfl,h.symm⟩))) ((hmd' _).mpr (Or.inr (Or.inr (rfl))))
  have hC1 : ∀ (i : Nat) (x : Int64) (p : Int),i < 3→([dz0,dz1,dz2] : List Int64)[i]?=some x→x.toInt=p * 4294967296 + 1→p=y0.toInt∨p=y1.toInt:=(fun i x p hi q e=>by have hx:=List.mem_of_getElem? (oApp (es:=[dz0,dz1,dz2]) (rest:=[]) hi q); simp only [List.mem_cons,List.not_mem_nil,or_false] at hx; have hy : x.toInt=dz0.toInt∨x.toInt=dz1.toInt∨x.toInt=dz2.toInt:=(by rcases hx with rfl|rfl|rfl<;>simp); rcases (hmd' x.toInt).mp hy with (h)|(h|h)<;>omega)
  refine Ye 155 K at_154 <|Yd 1 156 K at_155 ?_
  obtain ⟨v156,ev156⟩:=oE (p3 &&& (1 : Int32) : Int32)
  refine Gp 157 K at_156 ev156 ?_
  have tv156:=oMaskR 1 (by decide) ev156
  refine Hf 168 160 K at_157 (fun c157=>?_) (fun c157=>?_)
  ·refine Yh 170 K at_168 ?_
   refine Y7 b3 [] [] 0 20 92 173 K (hw 155) (hw 53) (hw 55) (hw 54) (hw 56) (hw 11) (oNF (hw 55)) (own_clear2 @hw) (lenOf pd_4 rfl) at_170 ?_
   rintro _ rfl
   rcases hvc with ⟨ev,eb⟩|⟨ev,eb⟩|⟨ev,eb⟩<;>subst ev<;>subst eb
   ·refine Yh 175 K at_173 <|Yb 177 K at_175 <|Yh 179 K at_177 ?_
    refine Y7 b3 [.int 0,.ref b0] [] 0 23 116 182 K (hw 67) (hw 68) (hw 70) (hw 69) (hw 71) (hw 11) (oNF (hw 70)) (own_add2_0_1 @hw ) (lenOf pd_15 rfl) at_179 ?_
    rintro _ rfl
    refine Yh 184 K at_182 <|Gb 186 K at_184 ?_
    have hwh2:=oWhI ev84 (by omega)
    have hwv2:=oI2D ev84
    refine Yu b3 [.double v84] [] 0 24 118 189 K (hw 93) (hw 94) (hw 96) (hw 95) (hw 97) (hw 11) (oNF (hw 96)) (own_find1_1_0 @hw (ocs:=[dz0,dz1,dz2]) (cnt:=3) (rds:=[0,0,0]) (cvs:=[.int 0,.int 0,.int 0]) (ch:=0) (by omega) (by decide) hO hS (Nat.le_of_ble_eq_true rfl) hSt hwh2 hwv2 (by omega) (by omega) (by omega) ⟨Nat.le_of_ble_eq_true rfl,Nat.le_of_ble_eq_true rfl⟩ (Nat.le_of_ble_eq_true rfl) (by decide) (by decide) (by decide) (by decide) ht00 hC0) (lenOf pd_19 rfl) at_186 ?_
    rintro _ _ ⟨j13,rdsE,rfl,rfl,hlE⟩
    refine Yj 191 K at_189 U17 <|Yb 193 K at_191 <|Yh 195 K at_193 <|Yf 0 1 196 K at_195 ?_
    refine Yx 201 199 K at_196 <|Yh 203 K at_201 <|Yd 0 204 K at_203 ?_
    refine Yu b3 [.int 0] [] 0 24 118 207 K (hw 184) (hw 185) (hw 187) (hw 186) (hw 188) (hw 11) (oNF (hw 187)) (own_len0 @hw (oLen0 (Nat.le_of_ble_eq_true rfl))) (lenOf pd_20 rfl) at_204 ?_
    rintro _ _ ⟨rfl,rfl⟩
    refine Yd 1 208 K at_207 ?_
    refine Yx 213 211 K at_208 <|Yh 215 K at_213 <|Yf 0 1 216 K at_215 <|Yd 2 217 K at_216 ?_
    refine Gj 232 220 K at_217 <|Yd 1 233 K at_232 ?_
    exact Y5 K at_233 ⟨_,rfl,rfl⟩
   ·refine Yh 175 K at_173 <|Yb 177 K at_175 <|Yh 179 K at_177 ?_
    refine Y7 b3 [.int 1,.ref b1] [] 0 23 116 182 K (hw 67) (hw 68) (hw 70) (hw 69) (hw 71) (hw 11) (oNF (hw 70)) (own_add2_1_12 @hw ) (lenOf pd_15 rfl) at_179 ?_
    rintro _ rfl
    refine Yh 184 K at_182 <|Gb 186 K at_184 ?_
    have hwh2:=oWhI ev84 (by omega)
    have hwv2:=oI2D ev84
    refine oPk3 ?_
    refine Yu b3 [.double v84] [] 0 24 118 189 K (hw 93) (hw 94) (hw 96) (hw 95) (hw 97) (hw 11) (oNF (hw 96)) (own_find1_2_0 @hw (ocs:=[dz0,dz1,dz2]) (cnt:=3) (rds:=[0,0,0]) (cvs:=[.int 0,.int 0,.int 0]) (ch:=1) (by omega) (by omega) (by omega) (by decide) hO hS (Nat.le_of_ble_eq_true rfl) hSt hwh2 hwv2 (by omega) (by omega) (by omega) ⟨Nat.le_of_ble_eq_true rfl,Nat.le_of_ble_eq_true rfl⟩ (Nat.le_of_ble_eq_true rfl) (by decide) (by decide) (by decide) (by decide) ht10 ht11 hC1) (lenOf pd_19 rfl) at_186 ?_
    rintro _ _ ⟨j13,rdsE,rfl,rfl,hlE⟩
    refine Yj 191 K at_189 U17 <|Yb 193 K at_191 <|Yh 195 K at_193 <|Yf 0 2 196 K at_195 ?_
    refine Yx 201 199 K at_196 <|Yh 203 K at_201 <|Yd 0 204 K at_203 ?_
    refine Yu b3 [.int 0] [] 0 24 118 207 K (hw 184) (hw 185) (hw 187) (hw 186) (hw 188) (hw 11) (oNF (hw 187)) (own_len0 @hw (oLen0' (Nat.le_of_ble_eq_true rfl))) (lenOf pd_20 rfl) at_204 ?_
    rintro _ _ ⟨rfl,rfl⟩
    refine Yd 1 208 K at_207 ?_
    refine Yx 213 211 K at_208 <|Yh 215 K at_213 <|Yf 0 2 216 K at_215 <|Yd 2 217 K at_216 ?_
    refine Gr 232 220 K at_217 <|Yh 222 K at_220 <|Yd 1 223 K at_222 ?_
    refine Yu b3 [.int 1] [] 0 24 118 226 K (hw 184) (hw 185) (hw 187) (hw 186) (hw 188) (hw 11) (oNF (hw 187)) (own_len1 @hw (oLen1 (Nat.le_of_ble_eq_true rfl))) (lenOf pd_20 rfl) at_223 ?_
    rintro _ _ ⟨rfl,rfl⟩
    refine Yd 1 227 K at_226 ?_
    refine Yx 232 230 K at_227 <|Yd 1 233 K at_232 ?_
    exact Y5 K at_233 ⟨_,rfl,rfl⟩
   rcases hps2 with ⟨u0,rfl,hua,hub⟩|⟨u0,u1,rfl,hua,hub,huc⟩
   ·refine Yh 175 K at_173 <|Yb 177 K at_175 <|Yh 179 K at_177 ?_
    refine Y7 b3 [.int 2,.ref b2] [] 0 23 116 182 K (hw 67) (hw 68) (hw 70) (hw 69) (hw 71) (hw 11) (oNF (hw 70)) (own_add3_2_121 @hw (by omega) hchd (by omega) (by omega) (by omega)) (lenOf pd_15 rfl) at_179 ?_
    rintro _ ⟨k10,k11,k12,kz0,kz1,kz2,kz3,rfl,hchk,hmk⟩
    have hmk':=fun v : Int=>(hmk v).trans (or_congr (hmd' v) Iff.rfl)
    have hO : oEnt [kz0,kz1,kz2,kz3,0,0] 4 2:=(oEntOf (es:=[kz0,kz1,kz2,kz3]) (rest:=[0,0]) rfl (fun x hx=>by simp only [List.mem_cons,List.not_mem_nil,or_false] at hx; have hy : x.toInt=kz0.toInt∨x.toInt=kz1.toInt∨x.toInt=kz2.toInt∨x.toInt=kz3.toInt:=(by rcases hx with rfl|rfl|rfl|rfl<;>simp); rcases (hmk' x.toInt).mp hy with ((h)|(h|h))|(h)<;>exact oPW h (by omega) (by decide)))
    have hS : oSrt [kz0,kz1,kz2,kz3,0,0] 4:=(oSrtOf (es:=[kz0,kz1,kz2,kz3]) (rest:=[0,0]) hchk rfl)
    obtain ⟨ti20,tx20,ht20⟩ : ∃ (i : Nat) (x : Int64),i < 4∧([kz0,kz1,kz2,kz3,0,0] : List Int64)[i]?=some x∧x.toInt=u0.toInt * 4294967296 + 2:=(fun h=>h.elim (fun h=>⟨0,kz0,by decide,rfl,h.symm⟩) (fun h=>h.elim (fun h=>⟨1,kz1,by decide,rfl,h.symm⟩) (fun h=>h.elim (fun h=>⟨2,kz2,by decide,rfl,h.symm⟩) (fun h=>⟨3,kz3,by decide,rfl,h.symm⟩)))) ((hmk' _).mpr (Or.inr (rfl)))
    have hC2 : ∀ (i : Nat) (x : Int64) (p : Int),i < 4→([kz0,kz1,kz2,kz3,0,0] : List Int64)[i]?=some x→x.toInt=p * 4294967296 + 2→p=u0.toInt:=(fun i x p hi q e=>by have hx:=List.mem_of_getElem? (oApp (es:=[kz0,kz1,kz2,kz3]) (rest:=[0,0]) hi q); simp only [List.mem_cons,List.not_mem_nil,or_false] at hx; have hy : x.toInt=kz0.toInt∨x.toInt=kz1.toInt∨x.toInt=kz2.toInt∨x.toInt=kz3.toInt:=(by rcases hx with rfl|rfl|rfl|rfl<;>simp); rcases (hmk' x.toInt).mp hy with ((h)|(h|h))|(h)<;>omega)
    refine Yh 184 K at_182 <|Gb 186 K at_184 ?_
    have hwh2:=oWhI ev84 (by omega)
    have hwv2:=oI2D ev84
    refine oPk4 ?_
    refine Yu b3 [.double v84] [] 0 24 118 189 K (hw 93) (hw 94) (hw 96) (hw 95) (hw 97) (hw 11) (oNF (hw 96)) (own_find1_1_0 @hw (ocs:=[kz0,kz1,kz2,kz3,0,0]) (cnt:=4) (rds:=[0,0,0,0,0,0]) (cvs:=[.int 0,.int 0,.int 0,.int 0,.int 0,.int 0]) (ch:=2) (by omega) (by decide) hO hS (Nat.le_of_ble_eq_true rfl) hSt hwh2 hwv2 (by omega) (by omega) (by omega) ⟨Nat.le_of_ble_eq_true rfl,Nat.le_of_ble_eq_true rfl⟩ (Nat.le_of_ble_eq_true rfl) (by decide) (by decide) (by decide) (by decide) ht20 hC2) (lenOf pd_19 rfl) at_186 ?_
    rintro _ _ ⟨j13,rdsE,rfl,rfl,hlE⟩
    refine Yj 191 K at_189 U17 <|Yb 193 K at_191 <|Yh 195 K at_193 <|Yf 0 1 196 K at_195 ?_
    refine Yx 201 199 K at_196 <|Yh 203 K at_201 <|Yd 0 204 K at_203 ?_
    refine Yu b3 [.int 0] [] 0 24 118 207 K (hw 184) (hw 185) (hw 187) (hw 186) (hw 188) (hw 11) (oNF (hw 187)) (own_len0 @hw (oLen0 (Nat.le_of_ble_eq_true rfl))) (lenOf pd_20 rfl) at_204 ?_
    rintro _ _ ⟨rfl,rfl⟩
    refine Yd 1 208 K at_207 ?_
    refine Yx 213 211 K at_208 <|Yh 215 K at_213 <|Yf 0 1 216 K at_215 <|Yd 2 217 K at_216 ?_
    refine Gj 232 220 K at_217 <|Yd 1 233 K at_232 ?_
    exact Y5 K at_233 ⟨_,rfl,rfl⟩
   refine Yh 175 K at_173 <|Yb 177 K at_175 <|Yh 179 K at_177 ?_
   refine Y7 b3 [.int 2,.ref b2] [] 0 23 116 182 K (hw 67) (hw 68) (hw 70) (hw 69) (hw 71) (hw 11) (oNF (hw 70)) (own_add3_2_122 @hw (by omega) (by omega) (by omega) hchd (by omega) (by omega) (by omega) (by omega) (by omega) (by omega)) (lenOf pd_15 rfl) at_179 ?_
   rintro _ ⟨k10,k11,k12,kz0,kz1,kz2,kz3,kz4,rfl,hchk,hmk⟩
   have hmk':=fun v : Int=>(hmk v).trans (or_congr (hmd' v) Iff.rfl)
   have hO : oEnt [kz0,kz1,kz2,kz3,kz4,0] 5 2:=(oEntOf (es:=[kz0,kz1,kz2,kz3,kz4]) (rest:=[0]) rfl (fun x hx=>by simp only [List.mem_cons,List.not_mem_nil,or_false] at hx; have hy : x.toInt=kz0.toInt∨x.toInt=kz1.toInt∨x.toInt=kz2.toInt∨x.toInt=kz3.toInt∨x.toInt=kz4.toInt:=(by rcases hx with rfl|rfl|rfl|rfl|rfl<;>simp); rcases (hmk' x.toInt).mp hy with ((h)|(h|h))|(h|h)<;>exact oPW h (by omega) (by decide)))
   have hS : oSrt [kz0,kz1,kz2,kz3,kz4,0] 5:=(oSrtOf (es:=[kz0,kz1,kz2,kz3,kz4]) (rest:=[0]) hchk rfl)
   obtain ⟨ti20,tx20,ht20⟩ : ∃ (i : Nat) (x : Int64),i < 5∧([kz0,kz1,kz2,kz3,kz4,0] : List Int64)[i]?=some x∧x.toInt=u0.toInt * 4294967296 + 2:=(fun h=>h.elim (fun h=>⟨0,kz0,by decide,rfl,h.symm⟩) (fun h=>h.elim (fun h=>⟨1,kz1,by decide,rfl,h.symm⟩) (fun h=>h.elim (fun h=>⟨2,kz2,by decide,rfl,h.symm⟩) (fun h=>h.elim (fun h=>⟨3,kz3,by decide,rfl,h.symm⟩) (fun h=>⟨4,kz4,by decide,rfl,h.symm⟩))))) ((hmk' _).mpr (Or.inr (Or.inl rfl)))
   obtain ⟨ti21,tx21,ht21⟩ : ∃ (i : Nat) (x : Int64),i < 5∧([kz0,kz1,kz2,kz3,kz4,0] : List Int64)[i]?=some x∧x.toInt=u1.toInt * 4294967296 + 2:=(fun h=>h.elim (fun h=>⟨0,kz0,by decide,rfl,h.symm⟩) (fun h=>h.elim (fun h=>⟨1,kz1,by decide,rfl,h.symm⟩) (fun h=>h.elim (fun h=>⟨2,kz2,by decide,rfl,h.symm⟩) (fun h=>h.elim (fun h=>⟨3,kz3,by decide,rfl,h.symm⟩) (fun h=>⟨4,kz4,by decide,rfl,h.symm⟩))))) ((hmk' _).mpr (Or.inr (Or.inr (rfl))))
   have hC2 : ∀ (i : Nat) (x : Int64) (p : Int),i < 5→([kz0,kz1,kz2,kz3,kz4,0] : List Int64)[i]?=some x→x.toInt=p * 4294967296 + 2→p=u0.toInt∨p=u1.toInt:=(fun i x p hi q e=>by have hx:=List.mem_of_getElem? (oApp (es:=[kz0,kz1,kz2,kz3,kz4]) (rest:=[0]) hi q); simp only [List.mem_cons,List.not_mem_nil,or_false] at hx; have hy : x.toInt=kz0.toInt∨x.toInt=kz1.toInt∨x.toInt=kz2.toInt∨x.toInt=kz3.toInt∨x.toInt=kz4.toInt:=(by rcases hx with rfl|rfl|rfl|rfl|rfl<;>simp); rcases (hmk' x.toInt).mp hy with ((h)|(h|h))|(h|h)<;>omega)
   refine Yh 184 K at_182 <|Gb 186 K at_184 ?_
   have hwh2:=oWhI ev84 (by omega)
   have hwv2:=oI2D ev84
   refine oPk4 ?_
   refine Yu b3 [.double v84] [] 0 24 118 189 K (hw 93) (hw 94) (hw 96) (hw 95) (hw 97) (hw 11) (oNF (hw 96)) (own_find1_2_0 @hw (ocs:=[kz0,kz1,kz2,kz3,kz4,0]) (cnt:=5) (rds:=[0,0,0,0,0,0]) (cvs:=[.int 0,.int 0,.int 0,.int 0,.int 0,.int 0]) (ch:=2) (by omega) (by omega) (by omega) (by decide) hO hS (Nat.le_of_ble_eq_true rfl) hSt hwh2 hwv2 (by omega) (by omega) (by omega) ⟨Nat.le_of_ble_eq_true rfl,Nat.le_of_ble_eq_true rfl⟩ (Nat.le_of_ble_eq_true rfl) (by decide) (by decide) (by decide) (by decide) ht20 ht21 hC2) (lenOf pd_19 rfl) at_186 ?_
   rintro _ _ ⟨j13,rdsE,rfl,rfl,hlE⟩
   refine Yj 191 K at_189 U17 <|Yb 193 K at_191 <|Yh 195 K at_193 <|Yf 0 2 196 K at_195 ?_
   refine Yx 201 199 K at_196 <|Yh 203 K at_201 <|Yd 0 204 K at_203 ?_
   refine Yu b3 [.int 0] [] 0 24 118 207 K (hw 184) (hw 185) (hw 187) (hw 186) (hw 188) (hw 11) (oNF (hw 187)) (own_len0 @hw (oLen0' (Nat.le_of_ble_eq_true rfl))) (lenOf pd_20 rfl) at_204 ?_
   rintro _ _ ⟨rfl,rfl⟩
   refine Yd 1 208 K at_207 ?_
   refine Yx 213 211 K at_208 <|Yh 215 K at_213 <|Yf 0 2 216 K at_215 <|Yd 2 217 K at_216 ?_
   refine Gr 232 220 K at_217 <|Yh 222 K at_220 <|Yd 1 223 K at_222 ?_
   refine Yu b3 [.int 1] [] 0 24 118 226 K (hw 184) (hw 185) (hw 187) (hw 186) (hw 188) (hw 11) (oNF (hw 187)) (own_len1 @hw (oLen1 (Nat.le_of_ble_eq_true rfl))) (lenOf pd_20 rfl) at_223 ?_
   rintro _ _ ⟨rfl,rfl⟩
   refine Yd 1 227 K at_226 ?_
   refine Yx 232 230 K at_227 <|Yd 1 233 K at_232 ?_
   exact Y5 K at_233 ⟨_,rfl,rfl⟩
  refine Yh 162 K at_160 <|Gb 164 K at_162 ?_
  have hwh1:=oWhI ev71 (by omega)
  have hwv1:=oI2D ev71
  refine Yu b3 [.double v71] [] 0 21 94 167 K (hw 93) (hw 94) (hw 96) (hw 95) (hw 97) (hw 11) (oNF (hw 96)) (own_find2_12 @hw (ocs:=[dz0,dz1,dz2]) (cnt:=3) (rds:=[0,0,0]) (cvs:=[.int 0,.int 0,.int 0]) (by omega) (by omega) (by omega) (by omega) (by decide) hO hS (Nat.le_of_ble_eq_true rfl) hSt hwh1 hwv1 (by omega) (by omega) (by omega) ⟨Nat.le_of_ble_eq_true rfl,Nat.le_of_ble_eq_true rfl⟩ ⟨Nat.le_of_ble_eq_true rfl,Nat.le_of_ble_eq_true rfl⟩) (lenOf pd_19 rfl) at_164 ?_
  rintro _ _ ⟨i13,q0,rdsF,cvsF,ccF,rfl,rfl,hlr,hlc⟩
  have hlr' : rdsF.length=3:=hlr
  have hlc' : cvsF.length=3:=hlc
  refine Hk 168 K at_167 <|Yh 170 K at_168 ?_
  refine Y7 b3 [] [] 0 21 94 173 K (hw 155) (hw 53) (hw 55) (hw 54) (hw 56) (hw 11) (oNF (hw 55)) (own_clear2 @hw) (lenOf pd_4 rfl) at_170 ?_
  rintro _ rfl
  rcases hvc with ⟨ev,eb⟩|⟨ev,eb⟩|⟨ev,eb⟩<;>subst ev<;>subst eb
  ·refine Yh 175 K at_173 <|Yb 177 K at_175 <|Yh 179 K at_177 ?_
   refine Y7 b3 [.int 0,.ref b0] [] 0 24 118 182 K (hw 67) (hw 68) (hw 70) (hw 69) (hw 71) (hw 11) (oNF (hw 70)) (own_add2_0_1 @hw ) (lenOf pd_15 rfl) at_179 ?_
   rintro _ rfl
   refine Yh 184 K at_182 <|Gb 186 K at_184 ?_
   have hwh2:=oWhI ev84 (by omega)
   have hwv2:=oI2D ev84
   refine Yu b3 [.double v84] [] 0 25 120 189 K (hw 93) (hw 94) (hw 96) (hw 95) (hw 97) (hw 11) (oNF (hw 96)) (own_find1_1_1 @hw (ocs:=[dz0,dz1,dz2]) (cnt:=3) (rds:=rdsF) (cvs:=cvsF) (ch:=0) (by omega) (by decide) hO hS (Nat.le_of_ble_eq_true rfl) hSt hwh2 hwv2 (by omega) (by omega) (by omega) ⟨by omega,by omega⟩ (by omega) (by decide) (by decide) (by decide) (by decide) ht00 hC0) (lenOf pd_19 rfl) at_186 ?_
   rintro _ _ ⟨j13,rdsE,rfl,rfl,hlE⟩
   refine Yj 191 K at_189 U17 <|Yb 193 K at_191 <|Yh 195 K at_193 <|Yf 0 1 196 K at_195 ?_
   refine Yx 201 199 K at_196 <|Yh 203 K at_201 <|Yd 0 204 K at_203 ?_
   refine Yu b3 [.int 0] [] 0 25 120 207 K (hw 184) (hw 185) (hw 187) (hw 186) (hw 188) (hw 11) (oNF (hw 187)) (own_len0 @hw (oLen0 (by omega))) (lenOf pd_20 rfl) at_204 ?_
   rintro _ _ ⟨rfl,rfl⟩
   refine Yd 1 208 K at_207 ?_
   refine Yx 213 211 K at_208 <|Yh 215 K at_213 <|Yf 0 1 216 K at_215 <|Yd 2 217 K at_216 ?_
   refine Gj 232 220 K at_217 <|Yd 1 233 K at_232 ?_
   exact Y5 K at_233 ⟨_,rfl,rfl⟩
  ·refine Yh 175 K at_173 <|Yb 177 K at_175 <|Yh 179 K at_177 ?_
   refine Y7 b3 [.int 1,.ref b1] [] 0 24 118 182 K (hw 67) (hw 68) (hw 70) (hw 69) (hw 71) (hw 11) (oNF (hw 70)) (own_add2_1_12 @hw ) (lenOf pd_15 rfl) at_179 ?_
   rintro _ rfl
   refine Yh 184 K at_182 <|Gb 186 K at_184 ?_
   have hwh2:=oWhI ev84 (by omega)
   have hwv2:=oI2D ev84
   refine oPk3 ?_
   refine Yu b3 [.double v84] [] 0 25 120 189 K (hw 93) (hw 94) (hw 96) (hw 95) (hw 97) (hw 11) (oNF (hw 96)) (own_find1_2_1 @hw (ocs:=[dz0,dz1,dz2]) (cnt:=3) (rds:=rdsF) (cvs:=cvsF) (ch:=1) (by omega) (by omega) (by omega) (by decide) hO hS (Nat.le_of_ble_eq_true rfl) hSt hwh2 hwv2 (by omega) (by omega) (by omega) ⟨by omega,by omega⟩ (by omega) (by decide) (by decide) (by decide) (by decide) ht10 ht11 hC1) (lenOf pd_19 rfl) at_186 ?_
   rintro _ _ ⟨j13,rdsE,rfl,rfl,hlE⟩
   refine Yj 191 K at_189 U17 <|Yb 193 K at_191 <|Yh 195 K at_193 <|Yf 0 2 196 K at_195 ?_
   refine Yx 201 199 K at_196 <|Yh 203 K at_201 <|Yd 0 204 K at_203 ?_
   refine Yu b3 [.int 0] [] 0 25 120 207 K (hw 184) (hw 185) (hw 187) (hw 186) (hw 188) (hw 11) (oNF (hw 187)) (own_len0 @hw (oLen0' (by omega))) (lenOf pd_20 rfl) at_204 ?_
   rintro _ _ ⟨rfl,rfl⟩
   refine Yd 1 208 K at_207 ?_
   refine Yx 213 211 K at_208 <|Yh 215 K at_213 <|Yf 0 2 216 K at_215 <|Yd 2 217 K at_216 ?_
   refine Gr 232 220 K at_217 <|Yh 222 K at_220 <|Yd 1 223 K at_222 ?_
   refine Yu b3 [.int 1] [] 0 25 120 226 K (hw 184) (hw 185) (hw 187) (hw 186) (hw 188) (hw 11) (oNF (hw 187)) (own_len1 @hw (oLen1 (by omega))) (lenOf pd_20 rfl) at_223 ?_
   rintro _ _ ⟨rfl,rfl⟩
   refine Yd 1 227 K at_226 ?_
   refine Yx 232 230 K at_227 <|Yd 1 233 K at_232 ?_
   exact Y5 K at_233 ⟨_,rfl,rfl⟩
  rcases hps2 with ⟨u0,rfl,hua,hub⟩|⟨u0,u1,rfl,hua,hub,huc⟩
  ·refine Yh 175 K at_173 <|Yb 177 K at_175 <|Yh 179 K at_177 ?_
   refine Y7 b3 [.int 2,.ref b2] [] 0 24 118 182 K (hw 67) (hw 68) (hw 70) (hw 69) (hw 71) (hw 11) (oNF (hw 70)) (own_add3_2_121 @hw (by omega) hchd (by omega) (by omega) (by omega)) (lenOf pd_15 rfl) at_179 ?_
   rintro _ ⟨k10,k11,k12,kz0,kz1,kz2,kz3,rfl,hchk,hmk⟩
   have hmk':=fun v : Int=>(hmk v).trans (or_congr (hmd' v) Iff.rfl)
   have hO : oEnt [kz0,kz1,kz2,kz3,0,0] 4 2:=(oEntOf (es:=[kz0,kz1,kz2,kz3]) (rest:=[0,0]) rfl (fun x hx=>by simp only [List.mem_cons,List.not_mem_nil,or_false] at hx; have hy : x.toInt=kz0.toInt∨x.toInt=kz1.toInt∨x.toInt=kz2.toInt∨x.toInt=kz3.toInt:=(by rcases hx with rfl|rfl|rfl|rfl<;>simp); rcases (hmk' x.toInt).mp hy with ((h)|(h|h))|(h)<;>exact oPW h (by omega) (by decide)))
   have hS : oSrt [kz0,kz1,kz2,kz3,0,0] 4:=(oSrtOf (es:=[kz0,kz1,kz2,kz3]) (rest:=[0,0]) hchk rfl)
   obtain ⟨ti20,tx20,ht20⟩ : ∃ (i : Nat) (x : Int64),i < 4∧([kz0,kz1,kz2,kz3,0,0] : List Int64)[i]?=some x∧x.toInt=u0.toInt * 4294967296 + 2:=(fun h=>h.elim (fun h=>⟨0,kz0,by decide,rfl,h.symm⟩) (fun h=>h.elim (fun h=>⟨1,kz1,by decide,rfl,h.symm⟩) (fun h=>h.elim (fun h=>⟨2,kz2,by decide,rfl,h.symm⟩) (fun h=>⟨3,kz3,by decide,rfl,h.symm⟩)))) ((hmk' _).mpr (Or.inr (rfl)))
   have hC2 : ∀ (i : Nat) (x : Int64) (p : Int),i < 4→([kz0,kz1,kz2,kz3,0,0] : List Int64)[i]?=some x→x.toInt=p * 4294967296 + 2→p=u0.toInt:=(fun i x p hi q e=>by have hx:=List.mem_of_getElem? (oApp (es:=[kz0,kz1,kz2,kz3]) (rest:=[0,0]) hi q); simp only [List.mem_cons,List.not_mem_nil,or_false] at hx; have hy : x.toInt=kz0.toInt∨x.toInt=kz1.toInt∨x.toInt=kz2.toInt∨x.toInt=kz3.toInt:=(by rcases hx with rfl|rfl|rfl|rfl<;>simp); rcases (hmk' x.toInt).mp hy with ((h)|(h|h))|(h)<;>omega)
   refine Yh 184 K at_182 <|Gb 186 K at_184 ?_
   have hwh2:=oWhI ev84 (by omega)
   have hwv2:=oI2D ev84
   refine oPk4 ?_
   refine Yu b3 [.double v84] [] 0 25 120 189 K (hw 93) (hw 94) (hw 96) (hw 95) (hw 97) (hw 11) (oNF (hw 96)) (own_find1_1_1 @hw (ocs:=[kz0,kz1,kz2,kz3,0,0]) (cnt:=4) (rds:=[0,0,0,0,0,0]) (cvs:=[.int 0,.int 0,.int 0,.int 0,.int 0,.int 0]) (ch:=2) (by omega) (by decide) hO hS (Nat.le_of_ble_eq_true rfl) hSt hwh2 hwv2 (by omega) (by omega) (by omega) ⟨Nat.le_of_ble_eq_true rfl,Nat.le_of_ble_eq_true rfl⟩ (Nat.le_of_ble_eq_true rfl) (by decide) (by decide) (by decide) (by decide) ht20 hC2) (lenOf pd_19 rfl) at_186 ?_
   rintro _ _ ⟨j13,rdsE,rfl,rfl,hlE⟩
   refine Yj 191 K at_189 U17 <|Yb 193 K at_191 <|Yh 195 K at_193 <|Yf 0 1 196 K at_195 ?_
   refine Yx 201 199 K at_196 <|Yh 203 K at_201 <|Yd 0 204 K at_203 ?_
   refine Yu b3 [.int 0] [] 0 25 120 207 K (hw 184) (hw 185) (hw 187) (hw 186) (hw 188) (hw 11) (oNF (hw 187)) (own_len0 @hw (oLen0 (Nat.le_of_ble_eq_true rfl))) (lenOf pd_20 rfl) at_204 ?_
   rintro _ _ ⟨rfl,rfl⟩
   refine Yd 1 208 K at_207 ?_
   refine Yx 213 211 K at_208 <|Yh 215 K at_213 <|Yf 0 1 216 K at_215 <|Yd 2 217 K at_216 ?_
   refine Gj 232 220 K at_217 <|Yd 1 233 K at_232 ?_
   exact Y5 K at_233 ⟨_,rfl,rfl⟩
  refine Yh 175 K at_173 <|Yb 177 K at_175 <|Yh 179 K at_177 ?_
  refine Y7 b3 [.int 2,.ref b2] [] 0 24 118 182 K (hw 67) (hw 68) (hw 70) (hw 69) (hw 71) (hw 11) (oNF (hw 70)) (own_add3_2_122 @hw (by omega) (by omega) (by omega) hchd (by omega) (by omega) (by omega) (by omega) (by omega) (by omega)) (lenOf pd_15 rfl) at_179 ?_
  rintro _ ⟨k10,k11,k12,kz0,kz1,kz2,kz3,kz4,rfl,hchk,hmk⟩
  have hmk':=fun v : Int=>(hmk v).trans (or_congr (hmd' v) Iff.rfl)
  have hO : oEnt [kz0,kz1,kz2,kz3,kz4,0] 5 2:=(oEntOf (es:=[kz0,kz1,kz2,kz3,kz4]) (rest:=[0]) rfl (fun x hx=>by simp only [List.mem_cons,List.not_mem_nil,or_false] at hx; have hy : x.toInt=kz0.toInt∨x.toInt=kz1.toInt∨x.toInt=kz2.toInt∨x.toInt=kz3.toInt∨x.toInt=kz4.toInt:=(by rcases hx with rfl|rfl|rfl|rfl|rfl<;>simp); rcases (hmk' x.toInt).mp hy with ((h)|(h|h))|(h|h)<;>exact oPW h (by omega) (by decide)))
  have hS : oSrt [kz0,kz1,kz2,kz3,kz4,0] 5:=(oSrtOf (es:=[kz0,kz1,kz2,kz3,kz4]) (rest:=[0]) hchk rfl)
  obtain ⟨ti20,tx20,ht20⟩ : ∃ (i : Nat) (x : Int64),i < 5∧([kz0,kz1,kz2,kz3,kz4,0] : List Int64)[i]?=some x∧x.toInt=u0.toInt * 4294967296 + 2:=(fun h=>h.elim (fun h=>⟨0,kz0,by decide,rfl,h.symm⟩) (fun h=>h.elim (fun h=>⟨1,kz1,by decide,rfl,h.symm⟩) (fun h=>h.elim (fun h=>⟨2,kz2,by decide,rfl,h.symm⟩) (fun h=>h.elim (fun h=>⟨3,kz3,by decide,rfl,h.symm⟩) (fun h=>⟨4,kz4,by decide,rfl,h.symm⟩))))) ((hmk' _).mpr (Or.inr (Or.inl rfl)))
  obtain ⟨ti21,tx21,ht21⟩ : ∃ (i : Nat) (x : Int64),i < 5∧([kz0,kz1,kz2,kz3,kz4,0] : List Int64)[i]?=some x∧x.toInt=u1.toInt * 4294967296 + 2:=(fun h=>h.elim (fun h=>⟨0,kz0,by decide,rfl,h.symm⟩) (fun h=>h.elim (fun h=>⟨1,kz1,by decide,rfl,h.symm⟩) (fun h=>h.elim (fun h=>⟨2,kz2,by decide,rfl,h.symm⟩) (fun h=>h.elim (fun h=>⟨3,kz3,by decide,rfl,h.symm⟩) (fun h=>⟨4,kz4,by decide,rfl,h.symm⟩))))) ((hmk' _).mpr (Or.inr (Or.inr (rfl))))
  have hC2 : ∀ (i : Nat) (x : Int64) (p : Int),i < 5→([kz0,kz1,kz2,kz3,kz4,0] : List Int64)[i]?=some x→x.toInt=p * 4294967296 + 2→p=u0.toInt∨p=u1.toInt:=(fun i x p hi q e=>by have hx:=List.mem_of_getElem? (oApp (es:=[kz0,kz1,kz2,kz3,kz4]) (rest:=[0]) hi q); simp only [List.mem_cons,List.not_mem_nil,or_false] at hx; have hy : x.toInt=kz0.toInt∨x.toInt=kz1.toInt∨x.toInt=kz2.toInt∨x.toInt=kz3.toInt∨x.toInt=kz4.toInt:=(by rcases hx with rfl|rfl|rfl|rfl|rfl<;>simp); rcases (hmk' x.toInt).mp hy with ((h)|(h|h))|(h|h)<;>omega)
  refine Yh 184 K at_182 <|Gb 186 K at_184 ?_
  have hwh2:=oWhI ev84 (by omega)
  have hwv2:=oI2D ev84
  refine oPk4 ?_
  refine Yu b3 [.double v84] [] 0 25 120 189 K (hw 93) (hw 94) (hw 96) (hw 95) (hw 97) (hw 11) (oNF (hw 96)) (own_find1_2_1 @hw (ocs:=[kz0,kz1,kz2,kz3,kz4,0]) (cnt:=5) (rds:=[0,0,0,0,0,0]) (cvs:=[.int 0,.int 0,.int 0,.int 0,.int 0,.int 0]) (ch:=2) (by omega) (by omega) (by omega) (by decide) hO hS (Nat.le_of_ble_eq_true rfl) hSt hwh2 hwv2 (by omega) (by omega) (by omega) ⟨Nat.le_of_ble_eq_true rfl,Nat.le_of_ble_eq_true rfl⟩ (Nat.le_of_ble_eq_true rfl) (by decide) (by decide) (by decide) (by decide) ht20 ht21 hC2) (lenOf pd_19 rfl) at_186 ?_
  rintro _ _ ⟨j13,rdsE,rfl,rfl,hlE⟩
  refine Yj 191 K at_189 U17 <|Yb 193 K at_191 <|Yh 195 K at_193 <|Yf 0 2 196 K at_195 ?_
  refine Yx 201 199 K at_196 <|Yh 203 K at_201 <|Yd 0 204 K at_203 ?_
  refine Yu b3 [.int 0] [] 0 25 120 207 K (hw 184) (hw 185) (hw 187) (hw 186) (hw 188) (hw 11) (oNF (hw 187)) (own_len0 @hw (oLen0' (Nat.le_of_ble_eq_true rfl))) (lenOf pd_20 rfl) at_204 ?_
  rintro _ _ ⟨rfl,rfl⟩
  refine Yd 1 208 K at_207 ?_
  refine Yx 213 211 K at_208 <|Yh 215 K at_213 <|Yf 0 2 216 K at_215 <|Yd 2 217 K at_216 ?_
  refine Gr 232 220 K at_217 <|Yh 222 K at_220 <|Yd 1 223 K at_222 ?_
  refine Yu b3 [.int 1] [] 0 25 120 226 K (hw 184) (hw 185) (hw 187) (hw 186) (hw 188) (hw 11) (oNF (hw 187)) (own_len1 @hw (oLen1 (Nat.le_of_ble_eq_true rfl))) (lenOf pd_20 rfl) at_223 ?_
  rintro _ _ ⟨rfl,rfl⟩
  refine Yd 1 227 K at_226 ?_
  refine Yx 232 230 K at_227 <|Yd 1 233 K at_232 ?_
  exact Y5 K at_233 ⟨_,rfl,rfl⟩
 ·refine Yh 140 K at_138 <|Yd 0 141 K at_140 <|Yh 143 K at_141 ?_
  refine Y7 b3 [.int 0,.ref b0] [] 0 17 68 146 K (hw 67) (hw 68) (hw 70) (hw 69) (hw 71) (hw 11) (oNF (hw 70)) (own_add0_0_2 @hw (by omega) (by omega) (by omega) trivial) (lenOf pd_15 rfl) at_143 ?_
  rintro _ ⟨c10,c11,c12,cz0,cz1,rfl,hchc,hmc⟩
  have wd_cz0 : cz0.toInt % 4294967296≤0:=by rcases (hmc cz0.toInt).mp (Or.inl rfl) with h|h<;>omega
  have wd_cz1 : cz1.toInt % 4294967296≤0:=by rcases (hmc cz1.toInt).mp (Or.inr (rfl)) with h|h<;>omega
  refine Yh 148 K at_146 <|Yd 1 149 K at_148 <|Yh 151 K at_149 ?_
  refine Y7 b3 [.int 1,.ref b1] [] 0 20 92 154 K (hw 67) (hw 68) (hw 70) (hw 69) (hw 71) (hw 11) (oNF (hw 70)) (own_add1_1_21 @hw (by omega) hchc (by omega) (by omega)) (lenOf pd_15 rfl) at_151 ?_
  rintro _ ⟨d10,d11,d12,dz0,dz1,dz2,rfl,hchd,hmd⟩
  have hmd':=fun v : Int=>(hmd v).trans (or_congr (hmc v) Iff.rfl)
  have wd_dz0 : dz0.toInt % 4294967296≤1:=by rcases (hmd' dz0.toInt).mp (Or.inl rfl) with (h|h)|(h)<;>omega
  have wd_dz1 : dz1.toInt % 4294967296≤1:=by rcases (hmd' dz1.toInt).mp (Or.inr (Or.inl rfl)) with (h|h)|(h)<;>omega
  have wd_dz2 : dz2.toInt % 4294967296≤1:=by rcases (hmd' dz2.toInt).mp (Or.inr (Or.inr (rfl))) with (h|h)|(h)<;>omega
  have hO : oEnt [dz0,dz1,dz2,0] 3 2:=(oEntOf (es:=[dz0,dz1,dz2]) (rest:=[0]) rfl (fun x hx=>by simp only [List.mem_cons,List.not_mem_nil,or_false] at hx; have hy : x.toInt=dz0.toInt∨x.toInt=dz1.toInt∨x.toInt=dz2.toInt:=(by rcases hx with rfl|rfl|rfl<;>simp); rcases (hmd' x.toInt).mp hy with (h|h)|(h)<;>exact oPW h (by omega) (by decide)))
  have hS : oSrt [dz0,dz1,dz2,0] 3:=(oSrtOf (es:=[dz0,dz1,dz2]) (rest:=[0]) hchd rfl)
  obtain ⟨ti00,tx00,ht00⟩ : ∃ (i : Nat) (x : Int64),i < 3∧([dz0,dz1,dz2,0] : List Int64)[i]?=some x∧x.toInt=x0.toInt * 4294967296 + 0:=(fun h=>h.elim (fun h=>⟨0,dz0,by decide,rfl,h.symm⟩) (fun h=>h.elim (fun h=>⟨1,dz1,by decide,rfl,h.symm⟩) (fun h=>⟨2,dz2,by decide,rfl,h.symm⟩))) ((hmd' _).mpr (Or.inl (Or.inl rfl)))
  obtain ⟨ti01,tx01,ht01⟩ : ∃ (i : Nat) (x : Int64),i < 3∧([dz0,dz1,dz2,0] : List Int64)[i]?=some x∧x.toInt=x1.toInt * 4294967296 + 0:=(fun h=>h.elim (fun h=>⟨0,dz0,by decide,rfl,h.symm⟩) (fun h=>h.elim (fun h=>⟨1,dz1,by decide,rfl,h.symm⟩) (fun h=>⟨2,dz2,by decide,rfl,h.symm⟩))) ((hmd' _).mpr (Or.inl (Or.inr (rfl))))
  have hC0 : ∀ (i : Nat) (x : Int64) (p : Int),i < 3→([dz0,dz1,dz2,0] : List Int64)[i]?=some x→x.toInt=p * 4294967296 + 0→p=x0.toInt∨p=x1.toInt:=(fun i x p hi q e=>by have hx:=List.mem_of_getElem? (oApp (es:=[dz0,dz1,dz2]) (rest:=[0]) hi q); simp only [List.mem_cons,List.not_mem_nil,or_false] at hx; have hy : x.toInt=dz0.toInt∨x.toInt=dz1.toInt∨x.toInt=dz2.toInt:=(by rcases hx with rfl|rfl|rfl<;>simp); rcases (hmd' x.toInt).mp hy with (h|h)|(h)<;>omega)
  obtain ⟨ti10,tx10,ht10⟩ : ∃ (i : Nat) (x : Int64),i < 3∧([dz0,dz1,dz2,0] : List Int64)[i]?=some x∧x.toInt=y0.toInt * 4294967296 + 1:=(fun h=>h.elim (fun h=>⟨0,dz0,by decide,rfl,h.symm⟩) (fun h=>h.elim (fun h=>⟨1,dz1,by decide,rfl,h.symm⟩) (fun h=>⟨2,dz2,by decide,rfl,h.symm⟩))) ((hmd' _).mpr (Or.inr (rfl)))
  have hC1 : ∀ (i : Nat) (x : Int64) (p : Int),i < 3→([dz0,dz1,dz2,0] : List Int64)[i]?=some x→x.toInt=p * 4294967296 + 1→p=y0.toInt:=(fun i x p hi q e=>by have hx:=List.mem_of_getElem? (oApp (es:=[dz0,dz1,dz2]) (rest:=[0]) hi q); simp only [List.mem_cons,List.not_mem_nil,or_false] at hx; have hy : x.toInt=dz0.toInt∨x.toInt=dz1.toInt∨x.toInt=dz2.toInt:=(by rcases hx with rfl|rfl|rfl<;>simp); rcases (hmd' x.toInt).mp hy with (h|h)|(h)<;>omega)
  refine Ye 155 K at_154 <|Yd 1 156 K at_155 ?_
  obtain ⟨v156,ev156⟩:=oE (p3 &&& (1 : Int32) : Int32)
  refine Gp 157 K at_156 ev156 ?_
  have tv156:=oMaskR 1 (by decide) ev156
  refine Hf 168 160 K at_157 (fun c157=>?_) (fun c157=>?_)
  ·refine Yh 170 K at_168 ?_
   refine Y7 b3 [] [] 0 20 92 173 K (hw 155) (hw 53) (hw 55) (hw 54) (hw 56) (hw 11) (oNF (hw 55)) (own_clear2 @hw) (lenOf pd_4 rfl) at_170 ?_
   rintro _ rfl
   rcases hvc with ⟨ev,eb⟩|⟨ev,eb⟩|⟨ev,eb⟩<;>subst ev<;>subst eb
   ·refine Yh 175 K at_173 <|Yb 177 K at_175 <|Yh 179 K at_177 ?_
    refine Y7 b3 [.int 0,.ref b0] [] 0 23 116 182 K (hw 67) (hw 68) (hw 70) (hw 69) (hw 71) (hw 11) (oNF (hw 70)) (own_add2_0_2 @hw ) (lenOf pd_15 rfl) at_179 ?_
    rintro _ rfl
    refine Yh 184 K at_182 <|Gb 186 K at_184 ?_
    have hwh2:=oWhI ev84 (by omega)
    have hwv2:=oI2D ev84
    refine Yu b3 [.double v84] [] 0 24 118 189 K (hw 93) (hw 94) (hw 96) (hw 95) (hw 97) (hw 11) (oNF (hw 96)) (own_find1_2_0 @hw (ocs:=[dz0,dz1,dz2,0]) (cnt:=3) (rds:=[0,0,0,0]) (cvs:=[.int 0,.int 0,.int 0,.int 0]) (ch:=0) (by omega) (by omega) (by omega) (by decide) hO hS (Nat.le_of_ble_eq_true rfl) hSt hwh2 hwv2 (by omega) (by omega) (by omega) ⟨Nat.le_of_ble_eq_true rfl,Nat.le_of_ble_eq_true rfl⟩ (Nat.le_of_ble_eq_true rfl) (by decide) (by decide) (by decide) (by decide) ht00 ht01 hC0) (lenOf pd_19 rfl) at_186 ?_
    rintro _ _ ⟨j13,rdsE,rfl,rfl,hlE⟩
    refine Yj 191 K at_189 U17 <|Yb 193 K at_191 <|Yh 195 K at_193 <|Yf 0 2 196 K at_195 ?_
    refine Yx 201 199 K at_196 <|Yh 203 K at_201 <|Yd 0 204 K at_203 ?_
    refine Yu b3 [.int 0] [] 0 24 118 207 K (hw 184) (hw 185) (hw 187) (hw 186) (hw 188) (hw 11) (oNF (hw 187)) (own_len0 @hw (oLen0' (Nat.le_of_ble_eq_true rfl))) (lenOf pd_20 rfl) at_204 ?_
    rintro _ _ ⟨rfl,rfl⟩
    refine Yd 1 208 K at_207 ?_
    refine Yx 213 211 K at_208 <|Yh 215 K at_213 <|Yf 0 2 216 K at_215 <|Yd 2 217 K at_216 ?_
    refine Gr 232 220 K at_217 <|Yh 222 K at_220 <|Yd 1 223 K at_222 ?_
    refine Yu b3 [.int 1] [] 0 24 118 226 K (hw 184) (hw 185) (hw 187) (hw 186) (hw 188) (hw 11) (oNF (hw 187)) (own_len1 @hw (oLen1 (Nat.le_of_ble_eq_true rfl))) (lenOf pd_20 rfl) at_223 ?_
    rintro _ _ ⟨rfl,rfl⟩
    refine Yd 1 227 K at_226 ?_
    refine Yx 232 230 K at_227 <|Yd 1 233 K at_232 ?_
    exact Y5 K at_233 ⟨_,rfl,rfl⟩
   ·refine Yh 175 K at_173 <|Yb 177 K at_175 <|Yh 179 K at_177 ?_
    refine Y7 b3 [.int 1,.ref b1] [] 0 23 116 182 K (hw 67) (hw 68) (hw 70) (hw 69) (hw 71) (hw 11) (oNF (hw 70)) (own_add2_1_11 @hw ) (lenOf pd_15 rfl) at_179 ?_
    rintro _ rfl
    refine Yh 184 K at_182 <|Gb 186 K at_184 ?_
    have hwh2:=oWhI ev84 (by omega)
    have hwv2:=oI2D ev84
    refine oPk3 ?_
    refine Yu b3 [.double v84] [] 0 24 118 189 K (hw 93) (hw 94) (hw 96) (hw 95) (hw 97) (hw 11) (oNF (hw 96)) (own_find1_1_0 @hw (ocs:=[dz0,dz1,dz2,0]) (cnt:=3) (rds:=[0,0,0,0]) (cvs:=[.int 0,.int 0,.int 0,.int 0]) (ch:=1) (by omega) (by decide) hO hS (Nat.le_of_ble_eq_true rfl) hSt hwh2 hwv2 (by omega) (by omega) (by omega) ⟨Nat.le_of_ble_eq_true rfl,Nat.le_of_ble_eq_true rfl⟩ (Nat.le_of_ble_eq_true rfl) (by decide) (by decide) (by decide) (by decide) ht10 hC1) (lenOf pd_19 rfl) at_186 ?_
    rintro _ _ ⟨j13,rdsE,rfl,rfl,hlE⟩
    refine Yj 191 K at_189 U17 <|Yb 193 K at_191 <|Yh 195 K at_193 <|Yf 0 1 196 K at_195 ?_
    refine Yx 201 199 K at_196 <|Yh 203 K at_201 <|Yd 0 204 K at_203 ?_
    refine Yu b3 [.int 0] [] 0 24 118 207 K (hw 184) (hw 185) (hw 187) (hw 186) (hw 188) (hw 11) (oNF (hw 187)) (own_len0 @hw (oLen0 (Nat.le_of_ble_eq_true rfl))) (lenOf pd_20 rfl) at_204 ?_
    rintro _ _ ⟨rfl,rfl⟩
    refine Yd 1 208 K at_207 ?_
    refine Yx 213 211 K at_208 <|Yh 215 K at_213 <|Yf 0 1 216 K at_215 <|Yd 2 217 K at_216 ?_
    refine Gj 232 220 K at_217 <|Yd 1 233 K at_232 ?_
    exact Y5 K at_233 ⟨_,rfl,rfl⟩
   rcases hps2 with ⟨u0,rfl,hua,hub⟩|⟨u0,u1,rfl,hua,hub,huc⟩
   ·refine Yh 175 K at_173 <|Yb 177 K at_175 <|Yh 179 K at_177 ?_
    refine Y7 b3 [.int 2,.ref b2] [] 0 23 116 182 K (hw 67) (hw 68) (hw 70) (hw 69) (hw 71) (hw 11) (oNF (hw 70)) (own_add3_2_211 @hw (by omega) hchd (by omega) (by omega) (by omega)) (lenOf pd_15 rfl) at_179 ?_
    rintro _ ⟨kz0,kz1,kz2,kz3,rfl,hchk,hmk⟩
    have hmk':=fun v : Int=>(hmk v).trans (or_congr (hmd' v) Iff.rfl)
    have hO : oEnt [kz0,kz1,kz2,kz3] 4 2:=(oEntOf (es:=[kz0,kz1,kz2,kz3]) (rest:=[]) rfl (fun x hx=>by simp only [List.mem_cons,List.not_mem_nil,or_false] at hx; have hy : x.toInt=kz0.toInt∨x.toInt=kz1.toInt∨x.toInt=kz2.toInt∨x.toInt=kz3.toInt:=(by rcases hx with rfl|rfl|rfl|rfl<;>simp); rcases (hmk' x.toInt).mp hy with ((h|h)|(h))|(h)<;>exact oPW h (by omega) (by decide)))
    have hS : oSrt [kz0,kz1,kz2,kz3] 4:=(oSrtOf (es:=[kz0,kz1,kz2,kz3]) (rest:=[]) hchk rfl)
    obtain ⟨ti20,tx20,ht20⟩ : ∃ (i : Nat) (x : Int64),i < 4∧([kz0,kz1,kz2,kz3] : List Int64)[i]?=some x∧x.toInt=u0.toInt * 4294967296 + 2:=(fun h=>h.elim (fun h=>⟨0,kz0,by decide,rfl,h.symm⟩) (fun h=>h.elim (fun h=>⟨1,kz1,by decide,rfl,h.symm⟩) (fun h=>h.elim (fun h=>⟨2,kz2,by decide,rfl,h.symm⟩) (fun h=>⟨3,kz3,by decide,rfl,h.symm⟩)))) ((hmk' _).mpr (Or.inr (rfl)))
    have hC2 : ∀ (i : Nat) (x : Int64) (p : Int),i < 4→([kz0,kz1,kz2,kz3] : List Int64)[i]?=some x→x.toInt=p * 4294967296 + 2→p=u0.toInt:=(fun i x p hi q e=>by have hx:=List.mem_of_getElem? (oApp (es:=[kz0,kz1,kz2,kz3]) (rest:=[]) hi q); simp only [List.mem_cons,List.not_mem_nil,or_false] at hx; have hy : x.toInt=kz0.toInt∨x.toInt=kz1.toInt∨x.toInt=kz2.toInt∨x.toInt=kz3.toInt:=(by rcases hx with rfl|rfl|rfl|rfl<;>simp); rcases (hmk' x.toInt).mp hy with ((h|h)|(h))|(h)<;>omega)
    refine Yh 184 K at_182 <|Gb 186 K at_184 ?_
    have hwh2:=oWhI ev84 (by omega)
    have hwv2:=oI2D ev84
    refine oPk4 ?_
    refine Yu b3 [.double v84] [] 0 24 118 189 K (hw 93) (hw 94) (hw 96) (hw 95) (hw 97) (hw 11) (oNF (hw 96)) (own_find1_1_0 @hw (ocs:=[kz0,kz1,kz2,kz3]) (cnt:=4) (rds:=[0,0,0,0]) (cvs:=[.int 0,.int 0,.int 0,.int 0]) (ch:=2) (by omega) (by decide) hO hS (Nat.le_of_ble_eq_true rfl) hSt hwh2 hwv2 (by omega) (by omega) (by omega) ⟨Nat.le_of_ble_eq_true rfl,Nat.le_of_ble_eq_true rfl⟩ (Nat.le_of_ble_eq_true rfl) (by decide) (by decide) (by decide) (by decide) ht20 hC2) (lenOf pd_19 rfl) at_186 ?_
    rintro _ _ ⟨j13,rdsE,rfl,rfl,hlE⟩
    refine Yj 191 K at_189 U17 <|Yb 193 K at_191 <|Yh 195 K at_193 <|Yf 0 1 196 K at_195 ?_
    refine Yx 201 199 K at_196 <|Yh 203 K at_201 <|Yd 0 204 K at_203 ?_
    refine Yu b3 [.int 0] [] 0 24 118 207 K (hw 184) (hw 185) (hw 187) (hw 186) (hw 188) (hw 11) (oNF (hw 187)) (own_len0 @hw (oLen0 (Nat.le_of_ble_eq_true rfl))) (lenOf pd_20 rfl) at_204 ?_
    rintro _ _ ⟨rfl,rfl⟩
    refine Yd 1 208 K at_207 ?_
    refine Yx 213 211 K at_208 <|Yh 215 K at_213 <|Yf 0 1 216 K at_215 <|Yd 2 217 K at_216 ?_
    refine Gj 232 220 K at_217 <|Yd 1 233 K at_232 ?_
    exact Y5 K at_233 ⟨_,rfl,rfl⟩
   refine Yh 175 K at_173 <|Yb 177 K at_175 <|Yh 179 K at_177 ?_
   refine Y7 b3 [.int 2,.ref b2] [] 0 23 116 182 K (hw 67) (hw 68) (hw 70) (hw 69) (hw 71) (hw 11) (oNF (hw 70)) (own_add3_2_212 @hw (by omega) (by omega) (by omega) hchd (by omega) (by omega) (by omega) (by omega) (by omega) (by omega)) (lenOf pd_15 rfl) at_179 ?_
   rintro _ ⟨k10,k11,k12,kz0,kz1,kz2,kz3,kz4,rfl,hchk,hmk⟩
   have hmk':=fun v : Int=>(hmk v).trans (or_congr (hmd' v) Iff.rfl)
   have hO : oEnt [kz0,kz1,kz2,kz3,kz4,0,0,0] 5 2:=(oEntOf (es:=[kz0,kz1,kz2,kz3,kz4]) (rest:=[0,0,0]) rfl (fun x hx=>by simp only [List.mem_cons,List.not_mem_nil,or_false] at hx; have hy : x.toInt=kz0.toInt∨x.toInt=kz1.toInt∨x.toInt=kz2.toInt∨x.toInt=kz3.toInt∨x.toInt=kz4.toInt:=(by rcases hx with rfl|rfl|rfl|rfl|rfl<;>simp); rcases (hmk' x.toInt).mp hy with ((h|h)|(h))|(h|h)<;>exact oPW h (by omega) (by decide)))
   have hS : oSrt [kz0,kz1,kz2,kz3,kz4,0,0,0] 5:=(oSrtOf (es:=[kz0,kz1,kz2,kz3,kz4]) (rest:=[0,0,0]) hchk rfl)
   obtain ⟨ti20,tx20,ht20⟩ : ∃ (i : Nat) (x : Int64),i < 5∧([kz0,kz1,kz2,kz3,kz4,0,0,0] : List Int64)[i]?=some x∧x.toInt=u0.toInt * 4294967296 + 2:=(fun h=>h.elim (fun h=>⟨0,kz0,by decide,rfl,h.symm⟩) (fun h=>h.elim (fun h=>⟨1,kz1,by decide,rfl,h.symm⟩) (fun h=>h.elim (fun h=>⟨2,kz2,by decide,rfl,h.symm⟩) (fun h=>h.elim (fun h=>⟨3,kz3,by decide,rfl,h.symm⟩) (fun h=>⟨4,kz4,by decide,rfl,h.symm⟩))))) ((hmk' _).mpr (Or.inr (Or.inl rfl)))
   obtain ⟨ti21,tx21,ht21⟩ : ∃ (i : Nat) (x : Int64),i < 5∧([kz0,kz1,kz2,kz3,kz4,0,0,0] : List Int64)[i]?=some x∧x.toInt=u1.toInt * 4294967296 + 2:=(fun h=>h.elim (fun h=>⟨0,kz0,by decide,rfl,h.symm⟩) (fun h=>h.elim (fun h=>⟨1,kz1,by decide,rfl,h.symm⟩) (fun h=>h.elim (fun h=>⟨2,kz2,by decide,rfl,h.symm⟩) (fun h=>h.elim (fun h=>⟨3,kz3,by decide,rfl,h.symm⟩) (fun h=>⟨4,kz4,by decide,rfl,h.symm⟩))))) ((hmk' _).mpr (Or.inr (Or.inr (rfl))))
   have hC2 : ∀ (i : Nat) (x : Int64) (p : Int),i < 5→([kz0,kz1,kz2,kz3,kz4,0,0,0] : List Int64)[i]?=some x→x.toInt=p * 4294967296 + 2→p=u0.toInt∨p=u1.toInt:=(fun i x p hi q e=>by have hx:=List.mem_of_getElem? (oApp (es:=[kz0,kz1,kz2,kz3,kz4]) (rest:=[0,0,0]) hi q); simp only [List.mem_cons,List.not_mem_nil,or_false] at hx; have hy : x.toInt=kz0.toInt∨x.toInt=kz1.toInt∨x.toInt=kz2.toInt∨x.toInt=kz3.toInt∨x.toInt=kz4.toInt:=(by rcases hx with rfl|rfl|rfl|rfl|rfl<;>simp); rcases (hmk' x.toInt).mp hy with ((h|h)|(h))|(h|h)<;>omega)
   refine Yh 184 K at_182 <|Gb 186 K at_184 ?_
   have hwh2:=oWhI ev84 (by omega)
   have hwv2:=oI2D ev84
   refine oPk4 ?_
   refine Yu b3 [.double v84] [] 0 24 118 189 K (hw 93) (hw 94) (hw 96) (hw 95) (hw 97) (hw 11) (oNF (hw 96)) (own_find1_2_0 @hw (ocs:=[kz0,kz1,kz2,kz3,kz4,0,0,0]) (cnt:=5) (rds:=[0,0,0,0,0,0,0,0]) (cvs:=[.int 0,.int 0,.int 0,.int 0,.int 0,.int 0,.int 0,.int 0]) (ch:=2) (by omega) (by omega) (by omega) (by decide) hO hS (Nat.le_of_ble_eq_true rfl) hSt hwh2 hwv2 (by omega) (by omega) (by omega) ⟨Nat.le_of_ble_eq_true rfl,Nat.le_of_ble_eq_true rfl⟩ (Nat.le_of_ble_eq_true rfl) (by decide) (by decide) (by decide) (by decide) ht20 ht21 hC2) (lenOf pd_19 rfl) at_186 ?_
   rintro _ _ ⟨j13,rdsE,rfl,rfl,hlE⟩
   refine Yj 191 K at_189 U17 <|Yb 193 K at_191 <|Yh 195 K at_193 <|Yf 0 2 196 K at_195 ?_
   refine Yx 201 199 K at_196 <|Yh 203 K at_201 <|Yd 0 204 K at_203 ?_
   refine Yu b3 [.int 0] [] 0 24 118 207 K (hw 184) (hw 185) (hw 187) (hw 186) (hw 188) (hw 11) (oNF (hw 187)) (own_len0 @hw (oLen0' (Nat.le_of_ble_eq_true rfl))) (lenOf pd_20 rfl) at_204 ?_
   rintro _ _ ⟨rfl,rfl⟩
   refine Yd 1 208 K at_207 ?_
   refine Yx 213 211 K at_208 <|Yh 215 K at_213 <|Yf 0 2 216 K at_215 <|Yd 2 217 K at_216 ?_
   refine Gr 232 220 K at_217 <|Yh 222 K at_220 <|Yd 1 223 K at_222 ?_
   refine Yu b3 [.int 1] [] 0 24 118 226 K (hw 184) (hw 185) (hw 187) (hw 186) (hw 188) (hw 11) (oNF (hw 187)) (own_len1 @hw (oLen1 (Nat.le_of_ble_eq_true rfl))) (lenOf pd_20 rfl) at_223 ?_
   rintro _ _ ⟨rfl,rfl⟩
   refine Yd 1 227 K at_226 ?_
   refine Yx 232 230 K at_227 <|Yd 1 233 K at_232 ?_
   exact Y5 K at_233 ⟨_,rfl,rfl⟩
  refine Yh 162 K at_160 <|Gb 164 K at_162 ?_
  have hwh1:=oWhI ev71 (by omega)
  have hwv1:=oI2D ev71
  refine Yu b3 [.double v71] [] 0 21 94 167 K (hw 93) (hw 94) (hw 96) (hw 95) (hw 97) (hw 11) (oNF (hw 96)) (own_find2_21 @hw (ocs:=[dz0,dz1,dz2,0]) (cnt:=3) (rds:=[0,0,0,0]) (cvs:=[.int 0,.int 0,.int 0,.int 0]) (by omega) (by omega) (by omega) (by omega) (by decide) hO hS (Nat.le_of_ble_eq_true rfl) hSt hwh1 hwv1 (by omega) (by omega) (by omega) ⟨Nat.le_of_ble_eq_true rfl,Nat.le_of_ble_eq_true rfl⟩ ⟨Nat.le_of_ble_eq_true rfl,Nat.le_of_ble_eq_true rfl⟩) (lenOf pd_19 rfl) at_164 ?_
  rintro _ _ ⟨i13,q0,rdsF,cvsF,ccF,rfl,rfl,hlr,hlc⟩
  have hlr' : rdsF.length=4:=hlr
  have hlc' : cvsF.length=4:=hlc
  refine Hk 168 K at_167 <|Yh 170 K at_168 ?_
  refine Y7 b3 [] [] 0 21 94 173 K (hw 155) (hw 53) (hw 55) (hw 54) (hw 56) (hw 11) (oNF (hw 55)) (own_clear2 @hw) (lenOf pd_4 rfl) at_170 ?_
  rintro _ rfl
  rcases hvc with ⟨ev,eb⟩|⟨ev,eb⟩|⟨ev,eb⟩<;>subst ev<;>subst eb
  ·refine Yh 175 K at_173 <|Yb 177 K at_175 <|Yh 179 K at_177 ?_
   refine Y7 b3 [.int 0,.ref b0] [] 0 24 118 182 K (hw 67) (hw 68) (hw 70) (hw 69) (hw 71) (hw 11) (oNF (hw 70)) (own_add2_0_2 @hw ) (lenOf pd_15 rfl) at_179 ?_
   rintro _ rfl
   refine Yh 184 K at_182 <|Gb 186 K at_184 ?_
   have hwh2:=oWhI ev84 (by omega)
   have hwv2:=oI2D ev84
   refine Yu b3 [.double v84] [] 0 25 120 189 K (hw 93) (hw 94) (hw 96) (hw 95) (hw 97) (hw 11) (oNF (hw 96)) (own_find1_2_1 @hw (ocs:=[dz0,dz1,dz2,0]) (cnt:=3) (rds:=rdsF) (cvs:=cvsF) (ch:=0) (by omega) (by omega) (by omega) (by decide) hO hS (Nat.le_of_ble_eq_true rfl) hSt hwh2 hwv2 (by omega) (by omega) (by omega) ⟨by omega,by omega⟩ (by omega) (by decide) (by decide) (by decide) (by decide) ht00 ht01 hC0) (lenOf pd_19 rfl) at_186 ?_
   rintro _ _ ⟨j13,rdsE,rfl,rfl,hlE⟩
   refine Yj 191 K at_189 U17 <|Yb 193 K at_191 <|Yh 195 K at_193 <|Yf 0 2 196 K at_195 ?_
   refine Yx 201 199 K at_196 <|Yh 203 K at_201 <|Yd 0 204 K at_203 ?_
   refine Yu b3 [.int 0] [] 0 25 120 207 K (hw 184) (hw 185) (hw 187) (hw 186) (hw 188) (hw 11) (oNF (hw 187)) (own_len0 @hw (oLen0' (by omega))) (lenOf pd_20 rfl) at_204 ?_
   rintro _ _ ⟨rfl,rfl⟩
   refine Yd 1 208 K at_207 ?_
   refine Yx 213 211 K at_208 <|Yh 215 K at_213 <|Yf 0 2 216 K at_215 <|Yd 2 217 K at_216 ?_
   refine Gr 232 220 K at_217 <|Yh 222 K at_220 <|Yd 1 223 K at_222 ?_
   refine Yu b3 [.int 1] [] 0 25 120 226 K (hw 184) (hw 185) (hw 187) (hw 186) (hw 188) (hw 11) (oNF (hw 187)) (own_len1 @hw (oLen1 (by omega))) (lenOf pd_20 rfl) at_223 ?_
   rintro _ _ ⟨rfl,rfl⟩
   refine Yd 1 227 K at_226 ?_
   refine Yx 232 230 K at_227 <|Yd 1 233 K at_232 ?_
   exact Y5 K at_233 ⟨_,rfl,rfl⟩
  ·refine Yh 175 K at_173 <|Yb 177 K at_175 <|Yh 179 K at_177 ?_
   refine Y7 b3 [.int 1,.ref b1] [] 0 24 118 182 K (hw 67) (hw 68) (hw 70) (hw 69) (hw 71) (hw 11) (oNF (hw 70)) (own_add2_1_11 @hw ) (lenOf pd_15 rfl) at_179 ?_
   rintro _ rfl
   refine Yh 184 K at_182 <|Gb 186 K at_184 ?_
   have hwh2:=oWhI ev84 (by omega)
   have hwv2:=oI2D ev84
   refine oPk3 ?_
   refine Yu b3 [.double v84] [] 0 25 120 189 K (hw 93) (hw 94) (hw 96) (hw 95) (hw 97) (hw 11) (oNF (hw 96)) (own_find1_1_1 @hw (ocs:=[dz0,dz1,dz2,0]) (cnt:=3) (rds:=rdsF) (cvs:=cvsF) (ch:=1) (by omega) (by decide) hO hS (Nat.le_of_ble_eq_true rfl) hSt hwh2 hwv2 (by omega) (by omega) (by omega) ⟨by omega,by omega⟩ (by omega) (by decide) (by decide) (by decide) (by decide) ht10 hC1) (lenOf pd_19 rfl) at_186 ?_
   rintro _ _ ⟨j13,rdsE,rfl,rfl,hlE⟩
   refine Yj 191 K at_189 U17 <|Yb 193 K at_191 <|Yh 195 K at_193 <|Yf 0 1 196 K at_195 ?_
   refine Yx 201 199 K at_196 <|Yh 203 K at_201 <|Yd 0 204 K at_203 ?_
   refine Yu b3 [.int 0] [] 0 25 120 207 K (hw 184) (hw 185) (hw 187) (hw 186) (hw 188) (hw 11) (oNF (hw 187)) (own_len0 @hw (oLen0 (by omega))) (lenOf pd_20 rfl) at_204 ?_
   rintro _ _ ⟨rfl,rfl⟩
   refine Yd 1 208 K at_207 ?_
   refine Yx 213 211 K at_208 <|Yh 215 K at_213 <|Yf 0 1 216 K at_215 <|Yd 2 217 K at_216 ?_
   refine Gj 232 220 K at_217 <|Yd 1 233 K at_232 ?_
   exact Y5 K at_233 ⟨_,rfl,rfl⟩
  rcases hps2 with ⟨u0,rfl,hua,hub⟩|⟨u0,u1,rfl,hua,hub,huc⟩
  ·refine Yh 175 K at_173 <|Yb 177 K at_175 <|Yh 179 K at_177 ?_
   refine Y7 b3 [.int 2,.ref b2] [] 0 24 118 182 K (hw 67) (hw 68) (hw 70) (hw 69) (hw 71) (hw 11) (oNF (hw 70)) (own_add3_2_211 @hw (by omega) hchd (by omega) (by omega) (by omega)) (lenOf pd_15 rfl) at_179 ?_
   rintro _ ⟨kz0,kz1,kz2,kz3,rfl,hchk,hmk⟩
   have hmk':=fun v : Int=>(hmk v).trans (or_congr (hmd' v) Iff.rfl)
   have hO : oEnt [kz0,kz1,kz2,kz3] 4 2:=(oEntOf (es:=[kz0,kz1,kz2,kz3]) (rest:=[]) rfl (fun x hx=>by simp only [List.mem_cons,List.not_mem_nil,or_false] at hx; have hy : x.toInt=kz0.toInt∨x.toInt=kz1.toInt∨x.toInt=kz2.toInt∨x.toInt=kz3.toInt:=(by rcases hx with rfl|rfl|rfl|rfl<;>simp); rcases (hmk' x.toInt).mp hy with ((h|h)|(h))|(h)<;>exact oPW h (by omega) (by decide)))
   have hS : oSrt [kz0,kz1,kz2,kz3] 4:=(oSrtOf (es:=[kz0,kz1,kz2,kz3]) (rest:=[]) hchk rfl)
   obtain ⟨ti20,tx20,ht20⟩ : ∃ (i : Nat) (x : Int64),i < 4∧([kz0,kz1,kz2,kz3] : List Int64)[i]?=some x∧x.toInt=u0.toInt * 4294967296 + 2:=(fun h=>h.elim (fun h=>⟨0,kz0,by decide,rfl,h.symm⟩) (fun h=>h.elim (fun h=>⟨1,kz1,by decide,rfl,h.symm⟩) (fun h=>h.elim (fun h=>⟨2,kz2,by decide,rfl,h.symm⟩) (fun h=>⟨3,kz3,by decide,rfl,h.symm⟩)))) ((hmk' _).mpr (Or.inr (rfl)))
   have hC2 : ∀ (i : Nat) (x : Int64) (p : Int),i < 4→([kz0,kz1,kz2,kz3] : List Int64)[i]?=some x→x.toInt=p * 4294967296 + 2→p=u0.toInt:=(fun i x p hi q e=>by have hx:=List.mem_of_getElem? (oApp (es:=[kz0,kz1,kz2,kz3]) (rest:=[]) hi q); simp only [List.mem_cons,List.not_mem_nil,or_false] at hx; have hy : x.toInt=kz0.toInt∨x.toInt=kz1.toInt∨x.toInt=kz2.toInt∨x.toInt=kz3.toInt:=(by rcases hx with rfl|rfl|rfl|rfl<;>simp); rcases (hmk' x.toInt).mp hy with ((h|h)|(h))|(h)<;>omega)
   refine Yh 184 K at_182 <|Gb 186 K at_184 ?_
   have hwh2:=oWhI ev84 (by omega)
   have hwv2:=oI2D ev84
   refine oPk4 ?_
   refine Yu b3 [.double v84] [] 0 25 120 189 K (hw 93) (hw 94) (hw 96) (hw 95) (hw 97) (hw 11) (oNF (hw 96)) (own_find1_1_1 @hw (ocs:=[kz0,kz1,kz2,kz3]) (cnt:=4) (rds:=rdsF) (cvs:=cvsF) (ch:=2) (by omega) (by decide) hO hS (Nat.le_of_ble_eq_true rfl) hSt hwh2 hwv2 (by omega) (by omega) (by omega) ⟨by omega,by omega⟩ (by omega) (by decide) (by decide) (by decide) (by decide) ht20 hC2) (lenOf pd_19 rfl) at_186 ?_
   rintro _ _ ⟨j13,rdsE,rfl,rfl,hlE⟩
   refine Yj 191 K at_189 U17 <|Yb 193 K at_191 <|Yh 195 K at_193 <|Yf 0 1 196 K at_195 ?_
   refine Yx 201 199 K at_196 <|Yh 203 K at_201 <|Yd 0 204 K at_203 ?_
   refine Yu b3 [.int 0] [] 0 25 120 207 K (hw 184) (hw 185) (hw 187) (hw 186) (hw 188) (hw 11) (oNF (hw 187)) (own_len0 @hw (oLen0 (by omega))) (lenOf pd_20 rfl) at_204 ?_
   rintro _ _ ⟨rfl,rfl⟩
   refine Yd 1 208 K at_207 ?_
   refine Yx 213 211 K at_208 <|Yh 215 K at_213 <|Yf 0 1 216 K at_215 <|Yd 2 217 K at_216 ?_
   refine Gj 232 220 K at_217 <|Yd 1 233 K at_232 ?_
   exact Y5 K at_233 ⟨_,rfl,rfl⟩
  refine Yh 175 K at_173 <|Yb 177 K at_175 <|Yh 179 K at_177 ?_
  refine Y7 b3 [.int 2,.ref b2] [] 0 24 118 182 K (hw 67) (hw 68) (hw 70) (hw 69) (hw 71) (hw 11) (oNF (hw 70)) (own_add3_2_212 @hw (by omega) (by omega) (by omega) hchd (by omega) (by omega) (by omega) (by omega) (by omega) (by omega)) (lenOf pd_15 rfl) at_179 ?_
  rintro _ ⟨k10,k11,k12,kz0,kz1,kz2,kz3,kz4,rfl,hchk,hmk⟩
  have hmk':=fun v : Int=>(hmk v).trans (or_congr (hmd' v) Iff.rfl)
  have hO : oEnt [kz0,kz1,kz2,kz3,kz4,0,0,0] 5 2:=(oEntOf (es:=[kz0,kz1,kz2,kz3,kz4]) (rest:=[0,0,0]) rfl (fun x hx=>by simp only [List.mem_cons,List.not_mem_nil,or_false] at hx; have hy : x.toInt=kz0.toInt∨x.toInt=kz1.toInt∨x.toInt=kz2.toInt∨x.toInt=kz3.toInt∨x.toInt=kz4.toInt:=(by rcases hx with rfl|rfl|rfl|rfl|rfl<;>simp); rcases (hmk' x.toInt).mp hy with ((h|h)|(h))|(h|h)<;>exact oPW h (by omega) (by decide)))
  have hS : oSrt [kz0,kz1,kz2,kz3,kz4,0,0,0] 5:=(oSrtOf (es:=[kz0,kz1,kz2,kz3,kz4]) (rest:=[0,0,0]) hchk rfl)
  obtain ⟨ti20,tx20,ht20⟩ : ∃ (i : Nat) (x : Int64),i < 5∧([kz0,kz1,kz2,kz3,kz4,0,0,0] : List Int64)[i]?=some x∧x.toInt=u0.toInt * 4294967296 + 2:=(fun h=>h.elim (fun h=>⟨0,kz0,by decide,rfl,h.symm⟩) (fun h=>h.elim (fun h=>⟨1,kz1,by decide,rfl,h.symm⟩) (fun h=>h.elim (fun h=>⟨2,kz2,by decide,rfl,h.symm⟩) (fun h=>h.elim (fun h=>⟨3,kz3,by decide,rfl,h.symm⟩) (fun h=>⟨4,kz4,by decide,rfl,h.symm⟩))))) ((hmk' _).mpr (Or.inr (Or.inl rfl)))
  obtain ⟨ti21,tx21,ht21⟩ : ∃ (i : Nat) (x : Int64),i < 5∧([kz0,kz1,kz2,kz3,kz4,0,0,0] : List Int64)[i]?=some x∧x.toInt=u1.toInt * 4294967296 + 2:=(fun h=>h.elim (fun h=>⟨0,kz0,by decide,rfl,h.symm⟩) (fun h=>h.elim (fun h=>⟨1,kz1,by decide,rfl,h.symm⟩) (fun h=>h.elim (fun h=>⟨2,kz2,by decide,rfl,h.symm⟩) (fun h=>h.elim (fun h=>⟨3,kz3,by decide,rfl,h.symm⟩) (fun h=>⟨4,kz4,by decide,rfl,h.symm⟩))))) ((hmk' _).mpr (Or.inr (Or.inr (rfl))))
  have hC2 : ∀ (i : Nat) (x : Int64) (p : Int),i < 5→([kz0,kz1,kz2,kz3,kz4,0,0,0] : List Int64)[i]?=some x→x.toInt=p * 4294967296 + 2→p=u0.toInt∨p=u1.toInt:=(fun i x p hi q e=>by have hx:=List.mem_of_getElem? (oApp (es:=[kz0,kz1,kz2,kz3,kz4]) (rest:=[0,0,0]) hi q); simp only [List.mem_cons,List.not_mem_nil,or_false] at hx; have hy : x.toInt=kz0.toInt∨x.toInt=kz1.toInt∨x.toInt=kz2.toInt∨x.toInt=kz3.toInt∨x.toInt=kz4.toInt:=(by rcases hx with rfl|rfl|rfl|rfl|rfl<;>simp); rcases (hmk' x.toInt).mp hy with ((h|h)|(h))|(h|h)<;>omega)
  refine Yh 184 K at_182 <|Gb 186 K at_184 ?_
  have hwh2:=oWhI ev84 (by omega)
  have hwv2:=oI2D ev84
  refine oPk4 ?_
  refine Yu b3 [.double v84] [] 0 25 120 189 K (hw 93) (hw 94) (hw 96) (hw 95) (hw 97) (hw 11) (oNF (hw 96)) (own_find1_2_1 @hw (ocs:=[kz0,kz1,kz2,kz3,kz4,0,0,0]) (cnt:=5) (rds:=[0,0,0,0,0,0,0,0]) (cvs:=[.int 0,.int 0,.int 0,.int 0,.int 0,.int 0,.int 0,.int 0]) (ch:=2) (by omega) (by omega) (by omega) (by decide) hO hS (Nat.le_of_ble_eq_true rfl) hSt hwh2 hwv2 (by omega) (by omega) (by omega) ⟨Nat.le_of_ble_eq_true rfl,Nat.le_of_ble_eq_true rfl⟩ (Nat.le_of_ble_eq_true rfl) (by decide) (by decide) (by decide) (by decide) ht20 ht21 hC2) (lenOf pd_19 rfl) at_186 ?_
  rintro _ _ ⟨j13,rdsE,rfl,rfl,hlE⟩
  refine Yj 191 K at_189 U17 <|Yb 193 K at_191 <|Yh 195 K at_193 <|Yf 0 2 196 K at_195 ?_
  refine Yx 201 199 K at_196 <|Yh 203 K at_201 <|Yd 0 204 K at_203 ?_
  refine Yu b3 [.int 0] [] 0 25 120 207 K (hw 184) (hw 185) (hw 187) (hw 186) (hw 188) (hw 11) (oNF (hw 187)) (own_len0 @hw (oLen0' (Nat.le_of_ble_eq_true rfl))) (lenOf pd_20 rfl) at_204 ?_
  rintro _ _ ⟨rfl,rfl⟩
  refine Yd 1 208 K at_207 ?_
  refine Yx 213 211 K at_208 <|Yh 215 K at_213 <|Yf 0 2 216 K at_215 <|Yd 2 217 K at_216 ?_
  refine Gr 232 220 K at_217 <|Yh 222 K at_220 <|Yd 1 223 K at_222 ?_
  refine Yu b3 [.int 1] [] 0 25 120 226 K (hw 184) (hw 185) (hw 187) (hw 186) (hw 188) (hw 11) (oNF (hw 187)) (own_len1 @hw (oLen1 (Nat.le_of_ble_eq_true rfl))) (lenOf pd_20 rfl) at_223 ?_
  rintro _ _ ⟨rfl,rfl⟩
  refine Yd 1 227 K at_226 ?_
  refine Yx 232 230 K at_227 <|Yd 1 233 K at_232 ?_
  exact Y5 K at_233 ⟨_,rfl,rfl⟩
 refine Yh 140 K at_138 <|Yd 0 141 K at_140 <|Yh 143 K at_141 ?_
 refine Y7 b3 [.int 0,.ref b0] [] 0 17 68 146 K (hw 67) (hw 68) (hw 70) (hw 69) (hw 71) (hw 11) (oNF (hw 70)) (own_add0_0_2 @hw (by omega) (by omega) (by omega) trivial) (lenOf pd_15 rfl) at_143 ?_
 rintro _ ⟨c10,c11,c12,cz0,cz1,rfl,hchc,hmc⟩
 have wd_cz0 : cz0.toInt % 4294967296≤0:=by rcases (hmc cz0.toInt).mp (Or.inl rfl) with h|h<;>omega
 have wd_cz1 : cz1.toInt % 4294967296≤0:=by rcases (hmc cz1.toInt).mp (Or.inr (rfl)) with h|h<;>omega
 refine Yh 148 K at_146 <|Yd 1 149 K at_148 <|Yh 151 K at_149 ?_
 refine Y7 b3 [.int 1,.ref b1] [] 0 20 92 154 K (hw 67) (hw 68) (hw 70) (hw 69) (hw 71) (hw 11) (oNF (hw 70)) (own_add1_1_22 @hw (by omega) (by omega) (by omega) hchc (by omega) (by omega) (by omega) (by omega)) (lenOf pd_15 rfl) at_151 ?_
 rintro _ ⟨d10,d11,d12,dz0,dz1,dz2,dz3,rfl,hchd,hmd⟩
 have hmd':=fun v : Int=>(hmd v).trans (or_congr (hmc v) Iff.rfl)
 have wd_dz0 : dz0.toInt % 4294967296≤1:=by rcases (hmd' dz0.toInt).mp (Or.inl rfl) with (h|h)|(h|h)<;>omega
 have wd_dz1 : dz1.toInt % 4294967296≤1:=by rcases (hmd' dz1.toInt).mp (Or.inr (Or.inl rfl)) with (h|h)|(h|h)<;>omega
 have wd_dz2 : dz2.toInt % 4294967296≤1:=by rcases (hmd' dz2.toInt).mp (Or.inr (Or.inr (Or.inl rfl))) with (h|h)|(h|h)<;>omega
 have wd_dz3 : dz3.toInt % 4294967296≤1:=by rcases (hmd' dz3.toInt).mp (Or.inr (Or.inr (Or.inr (rfl)))) with (h|h)|(h|h)<;>omega
 have hO : oEnt [dz0,dz1,dz2,dz3] 4 2:=(oEntOf (es:=[dz0,dz1,dz2,dz3]) (rest:=[]) rfl (fun x hx=>by simp only [List.mem_cons,List.not_mem_nil,or_false] at hx; have hy : x.toInt=dz0.toInt∨x.toInt=dz1.toInt∨x.toInt=dz2.toInt∨x.toInt=dz3.toInt:=(by rcases hx with rfl|rfl|rfl|rfl<;>simp); rcases (hmd' x.toInt).mp hy with (h|h)|(h|h)<;>exact oPW h (by omega) (by decide)))
 have hS : oSrt [dz0,dz1,dz2,dz3] 4:=(oSrtOf (es:=[dz0,dz1,dz2,dz3]) (rest:=[]) hchd rfl)
 obtain ⟨ti00,tx00,ht00⟩ : ∃ (i : Nat) (x : Int64),i < 4∧([dz0,dz1,dz2,dz3] : List Int64)[i]?=some x∧x.toInt=x0.toInt * 4294967296 + 0:=(fun h=>h.elim (fun h=>⟨0,dz0,by decide,rfl,h.symm⟩) (fun h=>h.elim (fun h=>⟨1,dz1,by decide,rfl,h.symm⟩) (fun h=>h.elim (fun h=>⟨2,dz2,by decide,rfl,h.symm⟩) (fun h=>⟨3,dz3,by decide,rfl,h.symm⟩)))) ((hmd' _).mpr (Or.inl (Or.inl rfl)))
 obtain ⟨ti01,tx01,ht01⟩ : ∃ (i : Nat) (x : Int64),i < 4∧([dz0,dz1,dz2,dz3] : List Int64)[i]?=some x∧x.toInt=x1.toInt * 4294967296 + 0:=(fun h=>h.elim (fun h=>⟨0,dz0,by decide,rfl,h.symm⟩) (fun h=>h.elim (fun h=>⟨1,dz1,by decide,rfl,h.symm⟩) (fun h=>h.elim (fun h=>⟨2,dz2,by decide,rfl,h.symm⟩) (fun h=>⟨3,dz3,by decide,rfl,h.symm⟩)))) ((hmd' _).mpr (Or.inl (Or.inr (rfl))))
 have hC0 : ∀ (i : Nat) (x : Int64) (p : Int),i < 4→([dz0,dz1,dz2,dz3] : List Int64)[i]?=some x→x.toInt=p * 4294967296 + 0→p=x0.toInt∨p=x1.toInt:=(fun i x p hi q e=>by have hx:=List.mem_of_getElem? (oApp (es:=[dz0,dz1,dz2,dz3]) (rest:=[]) hi q); simp only [List.mem_cons,List.not_mem_nil,or_false] at hx; have hy : x.toInt=dz0.toInt∨x.toInt=dz1.toInt∨x.toInt=dz2.toInt∨x.toInt=dz3.toInt:=(by rcases hx with rfl|rfl|rfl|rfl<;>simp); rcases (hmd' x.toInt).mp hy with (h|h)|(h|h)<;>omega)
 obtain ⟨ti10,tx10,ht10⟩ : ∃ (i : Nat) (x : Int64),i < 4∧([dz0,dz1,dz2,dz3] : List Int64)[i]?=some x∧x.toInt=y0.toInt * 4294967296 + 1:=(fun h=>h.elim (fun h=>⟨0,dz0,by decide,rfl,h.symm⟩) (fun h=>h.elim (fun h=>⟨1,dz1,by decide,rfl,h.symm⟩) (fun h=>h.elim (fun h=>⟨2,dz2,by decide,rfl,h.symm⟩) (fun h=>⟨3,dz3,by decide,rfl,h.symm⟩)))) ((hmd' _).mpr (Or.inr (Or.inl rfl)))
 obtain ⟨ti11,tx11,ht11⟩ : ∃ (i : Nat) (x : Int64),i < 4∧([dz0,dz1,dz2,dz3] : List Int64)[i]?=some x∧x.toInt=y1.toInt * 4294967296 + 1:=(fun h=>h.elim (fun h=>⟨0,dz0,by decide,rfl,h.symm⟩) (fun h=>h.elim (fun h=>⟨1,dz1,by decide,rfl,h.symm⟩) (fun h=>h.elim (fun h=>⟨2,dz2,by decide,rfl,h.symm⟩) (fun h=>⟨3,dz3,by decide,rfl,h.symm⟩)))) ((hmd' _).mpr (Or.inr (Or.inr (rfl))))
 have hC1 : ∀ (i : Nat) (x : Int64) (p : Int),i < 4→([dz0,dz1,dz2,dz3] : List Int64)[i]?=some x→x.toInt=p * 4294967296 + 1→p=y0.toInt∨p=y1.toInt:=(fun i x p hi q e=>by have hx:=List.mem_of_getElem? (oApp (es:=[dz0,dz1,dz2,dz3]) (rest:=[]) hi q); simp only [List.mem_cons,List.not_mem_nil,or_false] at hx; have hy : x.toInt=dz0.toInt∨x.toInt=dz1.toInt∨x.toInt=dz2.toInt∨x.toInt=dz3.toInt:=(by rcases hx with rfl|rfl|rfl|rfl<;>simp); rcases (hmd' x.toInt).mp hy with (h|h)|(h|h)<;>omega)
 refine Ye 155 K at_154 <|Yd 1 156 K at_155 ?_
 obtain ⟨v156,ev156⟩:=oE (p3 &&& (1 : Int32) : Int32)
 refine Gp 157 K at_156 ev156 ?_
 have tv156:=oMaskR 1 (by decide) ev156
 refine Hf 168 160 K at_157 (fun c157=>?_) (fun c157=>?_)
 ·refine Yh 170 K at_168 ?_
  refine Y7 b3 [] [] 0 20 92 173 K (hw 155) (hw 53) (hw 55) (hw 54) (hw 56) (hw 11) (oNF (hw 55)) (own_clear2 @hw) (lenOf pd_4 rfl) at_170 ?_
  rintro _ rfl
  rcases hvc with ⟨ev,eb⟩|⟨ev,eb⟩|⟨ev,eb⟩<;>subst ev<;>subst eb
  ·refine Yh 175 K at_173 <|Yb 177 K at_175 <|Yh 179 K at_177 ?_
   refine Y7 b3 [.int 0,.ref b0] [] 0 23 116 182 K (hw 67) (hw 68) (hw 70) (hw 69) (hw 71) (hw 11) (oNF (hw 70)) (own_add2_0_2 @hw ) (lenOf pd_15 rfl) at_179 ?_
   rintro _ rfl
   refine Yh 184 K at_182 <|Gb 186 K at_184 ?_
   have hwh2:=oWhI ev84 (by omega)
   have hwv2:=oI2D ev84
   refine Yu b3 [.double v84] [] 0 24 118 189 K (hw 93) (hw 94) (hw 96) (hw 95) (hw 97) (hw 11) (oNF (hw 96)) (own_find1_2_0 @hw (ocs:=[dz0,dz1,dz2,dz3]) (cnt:=4) (rds:=[0,0,0,0]) (cvs:=[.int 0,.int 0,.int 0,.int 0]) (ch:=0) (by omega) (by omega) (by omega) (by decide) hO hS (Nat.le_of_ble_eq_true rfl) hSt hwh2 hwv2 (by omega) (by omega) (by omega) ⟨Nat.le_of_ble_eq_true rfl,Nat.le_of_ble_eq_true rfl⟩ (Nat.le_of_ble_eq_true rfl) (by decide) (by decide) (by decide) (by decide) ht00 ht01 hC0) (lenOf pd_19 rfl) at_186 ?_
   rintro _ _ ⟨j13,rdsE,rfl,rfl,hlE⟩
   refine Yj 191 K at_189 U17 <|Yb 193 K at_191 <|Yh 195 K at_193 <|Yf 0 2 196 K at_195 ?_
   refine Yx 201 199 K at_196 <|Yh 203 K at_201 <|Yd 0 204 K at_203 ?_
   refine Yu b3 [.int 0] [] 0 24 118 207 K (hw 184) (hw 185) (hw 187) (hw 186) (hw 188) (hw 11) (oNF (hw 187)) (own_len0 @hw (oLen0' (Nat.le_of_ble_eq_true rfl))) (lenOf pd_20 rfl) at_204 ?_
   rintro _ _ ⟨rfl,rfl⟩
   refine Yd 1 208 K at_207 ?_
   refine Yx 213 211 K at_208 <|Yh 215 K at_213 <|Yf 0 2 216 K at_215 <|Yd 2 217 K at_216 ?_
   refine Gr 232 220 K at_217 <|Yh 222 K at_220 <|Yd 1 223 K at_222 ?_
   refine Yu b3 [.int 1] [] 0 24 118 226 K (hw 184) (hw 185) (hw 187) (hw 186) (hw 188) (hw 11) (oNF (hw 187)) (own_len1 @hw (oLen1 (Nat.le_of_ble_eq_true rfl))) (lenOf pd_20 rfl) at_223 ?_
   rintro _ _ ⟨rfl,rfl⟩
   refine Yd 1 227 K at_226 ?_
   refine Yx 232 230 K at_227 <|Yd 1 233 K at_232 ?_
   exact Y5 K at_233 ⟨_,rfl,rfl⟩
  ·refine Yh 175 K at_173 <|Yb 177 K at_175 <|Yh 179 K at_177 ?_
   refine Y7 b3 [.int 1,.ref b1] [] 0 23 116 182 K (hw 67) (hw 68) (hw 70) (hw 69) (hw 71) (hw 11) (oNF (hw 70)) (own_add2_1_12 @hw ) (lenOf pd_15 rfl) at_179 ?_
   rintro _ rfl
   refine Yh 184 K at_182 <|Gb 186 K at_184 ?_
   have hwh2:=oWhI ev84 (by omega)
   have hwv2:=oI2D ev84
   refine oPk3 ?_
   refine Yu b3 [.double v84] [] 0 24 118 189 K (hw 93) (hw 94) (hw 96) (hw 95) (hw 97) (hw 11) (oNF (hw 96)) (own_find1_2_0 @hw (ocs:=[dz0,dz1,dz2,dz3]) (cnt:=4) (rds:=[0,0,0,0]) (cvs:=[.int 0,.int 0,.int 0,.int 0]) (ch:=1) (by omega) (by omega) (by omega) (by decide) hO hS (Nat.le_of_ble_eq_true rfl) hSt hwh2 hwv2 (by omega) (by omega) (by omega) ⟨Nat.le_of_ble_eq_true rfl,Nat.le_of_ble_eq_true rfl⟩ (Nat.le_of_ble_eq_true rfl) (by decide) (by decide) (by decide) (by decide) ht10 ht11 hC1) (lenOf pd_19 rfl) at_186 ?_
   rintro _ _ ⟨j13,rdsE,rfl,rfl,hlE⟩
   refine Yj 191 K at_189 U17 <|Yb 193 K at_191 <|Yh 195 K at_193 <|Yf 0 2 196 K at_195 ?_
   refine Yx 201 199 K at_196 <|Yh 203 K at_201 <|Yd 0 204 K at_203 ?_
   refine Yu b3 [.int 0] [] 0 24 118 207 K (hw 184) (hw 185) (hw 187) (hw 186) (hw 188) (hw 11) (oNF (hw 187)) (own_len0 @hw (oLen0' (Nat.le_of_ble_eq_true rfl))) (lenOf pd_20 rfl) at_204 ?_
   rintro _ _ ⟨rfl,rfl⟩
   refine Yd 1 208 K at_207 ?_
   refine Yx 213 211 K at_208 <|Yh 215 K at_213 <|Yf 0 2 216 K at_215 <|Yd 2 217 K at_216 ?_
   refine Gr 232 220 K at_217 <|Yh 222 K at_220 <|Yd 1 223 K at_222 ?_
   refine Yu b3 [.int 1] [] 0 24 118 226 K (hw 184) (hw 185) (hw 187) (hw 186) (hw 188) (hw 11) (oNF (hw 187)) (own_len1 @hw (oLen1 (Nat.le_of_ble_eq_true rfl))) (lenOf pd_20 rfl) at_223 ?_
   rintro _ _ ⟨rfl,rfl⟩
   refine Yd 1 227 K at_226 ?_
   refine Yx 232 230 K at_227 <|Yd 1 233 K at_232 ?_
   exact Y5 K at_233 ⟨_,rfl,rfl⟩
  rcases hps2 with ⟨u0,rfl,hua,hub⟩|⟨u0,u1,rfl,hua,hub,huc⟩
  ·refine Yh 175 K at_173 <|Yb 177 K at_175 <|Yh 179 K at_177 ?_
   refine Y7 b3 [.int 2,.ref b2] [] 0 23 116 182 K (hw 67) (hw 68) (hw 70) (hw 69) (hw 71) (hw 11) (oNF (hw 70)) (own_add3_2_221 @hw (by omega) hchd (by omega) (by omega) (by omega) (by omega)) (lenOf pd_15 rfl) at_179 ?_
   rintro _ ⟨k10,k11,k12,kz0,kz1,kz2,kz3,kz4,rfl,hchk,hmk⟩
   have hmk':=fun v : Int=>(hmk v).trans (or_congr (hmd' v) Iff.rfl)
   have hO : oEnt [kz0,kz1,kz2,kz3,kz4,0,0,0] 5 2:=(oEntOf (es:=[kz0,kz1,kz2,kz3,kz4]) (rest:=[0,0,0]) rfl (fun x hx=>by simp only [List.mem_cons,List.not_mem_nil,or_false] at hx; have hy : x.toInt=kz0.toInt∨x.toInt=kz1.toInt∨x.toInt=kz2.toInt∨x.toInt=kz3.toInt∨x.toInt=kz4.toInt:=(by rcases hx with rfl|rfl|rfl|rfl|rfl<;>simp); rcases (hmk' x.toInt).mp hy with ((h|h)|(h|h))|(h)<;>exact oPW h (by omega) (by decide)))
   have hS : oSrt [kz0,kz1,kz2,kz3,kz4,0,0,0] 5:=(oSrtOf (es:=[kz0,kz1,kz2,kz3,kz4]) (rest:=[0,0,0]) hchk rfl)
   obtain ⟨ti20,tx20,ht20⟩ : ∃ (i : Nat) (x : Int64),i < 5∧([kz0,kz1,kz2,kz3,kz4,0,0,0] : List Int64)[i]?=some x∧x.toInt=u0.toInt * 4294967296 + 2:=(fun h=>h.elim (fun h=>⟨0,kz0,by decide,rfl,h.symm⟩) (fun h=>h.elim (fun h=>⟨1,kz1,by decide,rfl,h.symm⟩) (fun h=>h.elim (fun h=>⟨2,kz2,by decide,rfl,h.symm⟩) (fun h=>h.elim (fun h=>⟨3,kz3,by decide,rfl,h.symm⟩) (fun h=>⟨4,kz4,by decide,rfl,h.symm⟩))))) ((hmk' _).mpr (Or.inr (rfl)))
   have hC2 : ∀ (i : Nat) (x : Int64) (p : Int),i < 5→([kz0,kz1,kz2,kz3,kz4,0,0,0] : List Int64)[i]?=some x→x.toInt=p * 4294967296 + 2→p=u0.toInt:=(fun i x p hi q e=>by have hx:=List.mem_of_getElem? (oApp (es:=[kz0,kz1,kz2,kz3,kz4]) (rest:=[0,0,0]) hi q); simp only [List.mem_cons,List.not_mem_nil,or_false] at hx; have hy : x.toInt=kz0.toInt∨x.toInt=kz1.toInt∨x.toInt=kz2.toInt∨x.toInt=kz3.toInt∨x.toInt=kz4.toInt:=(by rcases hx with rfl|rfl|rfl|rfl|rfl<;>simp); rcases (hmk' x.toInt).mp hy with ((h|h)|(h|h))|(h)<;>omega)
   refine Yh 184 K at_182 <|Gb 186 K at_184 ?_
   have hwh2:=oWhI ev84 (by omega)
   have hwv2:=oI2D ev84
   refine oPk4 ?_
   refine Yu b3 [.double v84] [] 0 24 118 189 K (hw 93) (hw 94) (hw 96) (hw 95) (hw 97) (hw 11) (oNF (hw 96)) (own_find1_1_0 @hw (ocs:=[kz0,kz1,kz2,kz3,kz4,0,0,0]) (cnt:=5) (rds:=[0,0,0,0,0,0,0,0]) (cvs:=[.int 0,.int 0,.int 0,.int 0,.int 0,.int 0,.int 0,.int 0]) (ch:=2) (by omega) (by decide) hO hS (Nat.le_of_ble_eq_true rfl) hSt hwh2 hwv2 (by omega) (by omega) (by omega) ⟨Nat.le_of_ble_eq_true rfl,Nat.le_of_ble_eq_true rfl⟩ (Nat.le_of_ble_eq_true rfl) (by decide) (by decide) (by decide) (by decide) ht20 hC2) (lenOf pd_19 rfl) at_186 ?_
   rintro _ _ ⟨j13,rdsE,rfl,rfl,hlE⟩
   refine Yj 191 K at_189 U17 <|Yb 193 K at_191 <|Yh 195 K at_193 <|Yf 0 1 196 K at_195 ?_
   refine Yx 201 199 K at_196 <|Yh 203 K at_201 <|Yd 0 204 K at_203 ?_
   refine Yu b3 [.int 0] [] 0 24 118 207 K (hw 184) (hw 185) (hw 187) (hw 186) (hw 188) (hw 11) (oNF (hw 187)) (own_len0 @hw (oLen0 (Nat.le_of_ble_eq_true rfl))) (lenOf pd_20 rfl) at_204 ?_
   rintro _ _ ⟨rfl,rfl⟩
   refine Yd 1 208 K at_207 ?_
   refine Yx 213 211 K at_208 <|Yh 215 K at_213 <|Yf 0 1 216 K at_215 <|Yd 2 217 K at_216 ?_
   refine Gj 232 220 K at_217 <|Yd 1 233 K at_232 ?_
   exact Y5 K at_233 ⟨_,rfl,rfl⟩
  refine Yh 175 K at_173 <|Yb 177 K at_175 <|Yh 179 K at_177 ?_
  refine Y7 b3 [.int 2,.ref b2] [] 0 23 116 182 K (hw 67) (hw 68) (hw 70) (hw 69) (hw 71) (hw 11) (oNF (hw 70)) (own_add3_2_222 @hw (by omega) (by omega) (by omega) hchd (by omega) (by omega) (by omega) (by omega) (by omega) (by omega) (by omega) (by omega)) (lenOf pd_15 rfl) at_179 ?_
  rintro _ ⟨k10,k11,k12,kz0,kz1,kz2,kz3,kz4,kz5,rfl,hchk,hmk⟩
  have hmk':=fun v : Int=>(hmk v).trans (or_congr (hmd' v) Iff.rfl)
  have hO : oEnt [kz0,kz1,kz2,kz3,kz4,kz5,0,0] 6 2:=(oEntOf (es:=[kz0,kz1,kz2,kz3,kz4,kz5]) (rest:=[0,0]) rfl (fun x hx=>by simp only [List.mem_cons,List.not_mem_nil,or_false] at hx; have hy : x.toInt=kz0.toInt∨x.toInt=kz1.toInt∨x.toInt=kz2.toInt∨x.toInt=kz3.toInt∨x.toInt=kz4.toInt∨x.toInt=kz5.toInt:=(by rcases hx with rfl|rfl|rfl|rfl|rfl|rfl<;>simp); rcases (hmk' x.toInt).mp hy with ((h|h)|(h|h))|(h|h)<;>exact oPW h (by omega) (by decide)))
  have hS : oSrt [kz0,kz1,kz2,kz3,kz4,kz5,0,0] 6:=(oSrtOf (es:=[kz0,kz1,kz2,kz3,kz4,kz5]) (rest:=[0,0]) hchk rfl)
  obtain ⟨ti20,tx20,ht20⟩ : ∃ (i : Nat) (x : Int64),i < 6∧([kz0,kz1,kz2,kz3,kz4,kz5,0,0] : List Int64)[i]?=some x∧x.toInt=u0.toInt * 4294967296 + 2:=(fun h=>h.elim (fun h=>⟨0,kz0,by decide,rfl,h.symm⟩) (fun h=>h.elim (fun h=>⟨1,kz1,by decide,rfl,h.symm⟩) (fun h=>h.elim (fun h=>⟨2,kz2,by decide,rfl,h.symm⟩) (fun h=>h.elim (fun h=>⟨3,kz3,by decide,rfl,h.symm⟩) (fun h=>h.elim (fun h=>⟨4,kz4,by decide,rfl,h.symm⟩) (fun h=>⟨5,kz5,by decide,rfl,h.symm⟩)))))) ((hmk' _).mpr (Or.inr (Or.inl rfl)))
  obtain ⟨ti21,tx21,ht21⟩ : ∃ (i : Nat) (x : Int64),i < 6∧([kz0,kz1,kz2,kz3,kz4,kz5,0,0] : List Int64)[i]?=some x∧x.toInt=u1.toInt * 4294967296 + 2:=(fun h=>h.elim (fun h=>⟨0,kz0,by decide,rfl,h.symm⟩) (fun h=>h.elim (fun h=>⟨1,kz1,by decide,rfl,h.symm⟩) (fun h=>h.elim (fun h=>⟨2,kz2,by decide,rfl,h.symm⟩) (fun h=>h.elim (fun h=>⟨3,kz3,by decide,rfl,h.symm⟩) (fun h=>h.elim (fun h=>⟨4,kz4,by decide,rfl,h.symm⟩) (fun h=>⟨5,kz5,by decide,rfl,h.symm⟩)))))) ((hmk' _).mpr (Or.inr (Or.inr (rfl))))
  have hC2 : ∀ (i : Nat) (x : Int64) (p : Int),i < 6→([kz0,kz1,kz2,kz3,kz4,kz5,0,0] : List Int64)[i]?=some x→x.toInt=p * 4294967296 + 2→p=u0.toInt∨p=u1.toInt:=(fun i x p hi q e=>by have hx:=List.mem_of_getElem? (oApp (es:=[kz0,kz1,kz2,kz3,kz4,kz5]) (rest:=[0,0]) hi q); simp only [List.mem_cons,List.not_mem_nil,or_false] at hx; have hy : x.toInt=kz0.toInt∨x.toInt=kz1.toInt∨x.toInt=kz2.toInt∨x.toInt=kz3.toInt∨x.toInt=kz4.toInt∨x.toInt=kz5.toInt:=(by rcases hx with rfl|rfl|rfl|rfl|rfl|rfl<;>simp); rcases (hmk' x.toInt).mp hy with ((h|h)|(h|h))|(h|h)<;>omega)
  refine Yh 184 K at_182 <|Gb 186 K at_184 ?_
  have hwh2:=oWhI ev84 (by omega)
  have hwv2:=oI2D ev84
  refine oPk4 ?_
  refine Yu b3 [.double v84] [] 0 24 118 189 K (hw 93) (hw 94) (hw 96) (hw 95) (hw 97) (hw 11) (oNF (hw 96)) (own_find1_2_0 @hw (ocs:=[kz0,kz1,kz2,kz3,kz4,kz5,0,0]) (cnt:=6) (rds:=[0,0,0,0,0,0,0,0]) (cvs:=[.int 0,.int 0,.int 0,.int 0,.int 0,.int 0,.int 0,.int 0]) (ch:=2) (by omega) (by omega) (by omega) (by decide) hO hS (Nat.le_of_ble_eq_true rfl) hSt hwh2 hwv2 (by omega) (by omega) (by omega) ⟨Nat.le_of_ble_eq_true rfl,Nat.le_of_ble_eq_true rfl⟩ (Nat.le_of_ble_eq_true rfl) (by decide) (by decide) (by decide) (by decide) ht20 ht21 hC2) (lenOf pd_19 rfl) at_186 ?_
  rintro _ _ ⟨j13,rdsE,rfl,rfl,hlE⟩
  refine Yj 191 K at_189 U17 <|Yb 193 K at_191 <|Yh 195 K at_193 <|Yf 0 2 196 K at_195 ?_
  refine Yx 201 199 K at_196 <|Yh 203 K at_201 <|Yd 0 204 K at_203 ?_
  refine Yu b3 [.int 0] [] 0 24 118 207 K (hw 184) (hw 185) (hw 187) (hw 186) (hw 188) (hw 11) (oNF (hw 187)) (own_len0 @hw (oLen0' (Nat.le_of_ble_eq_true rfl))) (lenOf pd_20 rfl) at_204 ?_
  rintro _ _ ⟨rfl,rfl⟩
  refine Yd 1 208 K at_207 ?_
  refine Yx 213 211 K at_208 <|Yh 215 K at_213 <|Yf 0 2 216 K at_215 <|Yd 2 217 K at_216 ?_
  refine Gr 232 220 K at_217 <|Yh 222 K at_220 <|Yd 1 223 K at_222 ?_
  refine Yu b3 [.int 1] [] 0 24 118 226 K (hw 184) (hw 185) (hw 187) (hw 186) (hw 188) (hw 11) (oNF (hw 187)) (own_len1 @hw (oLen1 (Nat.le_of_ble_eq_true rfl))) (lenOf pd_20 rfl) at_223 ?_
  rintro _ _ ⟨rfl,rfl⟩
  refine Yd 1 227 K at_226 ?_
  refine Yx 232 230 K at_227 <|Yd 1 233 K at_232 ?_
  exact Y5 K at_233 ⟨_,rfl,rfl⟩
 refine Yh 162 K at_160 <|Gb 164 K at_162 ?_
 have hwh1:=oWhI ev71 (by omega)
 have hwv1:=oI2D ev71
 refine Yu b3 [.double v71] [] 0 21 94 167 K (hw 93) (hw 94) (hw 96) (hw 95) (hw 97) (hw 11) (oNF (hw 96)) (own_find2_22 @hw (ocs:=[dz0,dz1,dz2,dz3]) (cnt:=4) (rds:=[0,0,0,0]) (cvs:=[.int 0,.int 0,.int 0,.int 0]) (by omega) (by omega) (by omega) (by omega) (by omega) (by omega) (by decide) hO hS (Nat.le_of_ble_eq_true rfl) hSt hwh1 hwv1 (by omega) (by omega) (by omega) ⟨Nat.le_of_ble_eq_true rfl,Nat.le_of_ble_eq_true rfl⟩ ⟨Nat.le_of_ble_eq_true rfl,Nat.le_of_ble_eq_true rfl⟩) (lenOf pd_19 rfl) at_164 ?_
 rintro _ _ ⟨i13,q0,q1,rdsF,cvsF,ccF,rfl,rfl,hlr,hlc⟩
 have hlr' : rdsF.length=4:=hlr
 have hlc' : cvsF.length=4:=hlc
 refine Hk 168 K at_167 <|Yh 170 K at_168 ?_
 refine Y7 b3 [] [] 0 21 94 173 K (hw 155) (hw 53) (hw 55) (hw 54) (hw 56) (hw 11) (oNF (hw 55)) (own_clear2 @hw) (lenOf pd_4 rfl) at_170 ?_
 rintro _ rfl
 rcases hvc with ⟨ev,eb⟩|⟨ev,eb⟩|⟨ev,eb⟩<;>subst ev<;>subst eb
 ·refine Yh 175 K at_173 <|Yb 177 K at_175 <|Yh 179 K at_177 ?_
  refine Y7 b3 [.int 0,.ref b0] [] 0 24 118 182 K (hw 67) (hw 68) (hw 70) (hw 69) (hw 71) (hw 11) (oNF (hw 70)) (own_add2_0_2 @hw ) (lenOf pd_15 rfl) at_179 ?_
  rintro _ rfl
  refine Yh 184 K at_182 <|Gb 186 K at_184 ?_
  have hwh2:=oWhI ev84 (by omega)
  have hwv2:=oI2D ev84
  refine Yu b3 [.double v84] [] 0 25 120 189 K (hw 93) (hw 94) (hw 96) (hw 95) (hw 97) (hw 11) (oNF (hw 96)) (own_find1_2_2 @hw (ocs:=[dz0,dz1,dz2,dz3]) (cnt:=4) (rds:=rdsF) (cvs:=cvsF) (ch:=0) (by omega) (by omega) (by omega) (by decide) hO hS (Nat.le_of_ble_eq_true rfl) hSt hwh2 hwv2 (by omega) (by omega) (by omega) ⟨by omega,by omega⟩ (by omega) (by decide) (by decide) (by decide) (by decide) ht00 ht01 hC0) (lenOf pd_19 rfl) at_186 ?_
  rintro _ _ ⟨j13,rdsE,rfl,rfl,hlE⟩
  refine Yj 191 K at_189 U17 <|Yb 193 K at_191 <|Yh 195 K at_193 <|Yf 0 2 196 K at_195 ?_
  refine Yx 201 199 K at_196 <|Yh 203 K at_201 <|Yd 0 204 K at_203 ?_
  refine Yu b3 [.int 0] [] 0 25 120 207 K (hw 184) (hw 185) (hw 187) (hw 186) (hw 188) (hw 11) (oNF (hw 187)) (own_len0 @hw (oLen0' (by omega))) (lenOf pd_20 rfl) at_204 ?_
  rintro _ _ ⟨rfl,rfl⟩
  refine Yd 1 208 K at_207 ?_
  refine Yx 213 211 K at_208 <|Yh 215 K at_213 <|Yf 0 2 216 K at_215 <|Yd 2 217 K at_216 ?_
  refine Gr 232 220 K at_217 <|Yh 222 K at_220 <|Yd 1 223 K at_222 ?_
  refine Yu b3 [.int 1] [] 0 25 120 226 K (hw 184) (hw 185) (hw 187) (hw 186) (hw 188) (hw 11) (oNF (hw 187)) (own_len1 @hw (oLen1 (by omega))) (lenOf pd_20 rfl) at_223 ?_
  rintro _ _ ⟨rfl,rfl⟩
  refine Yd 1 227 K at_226 ?_
  refine Yx 232 230 K at_227 <|Yd 1 233 K at_232 ?_
  exact Y5 K at_233 ⟨_,rfl,rfl⟩
 ·refine Yh 175 K at_173 <|Yb 177 K at_175 <|Yh 179 K at_177 ?_
  refine Y7 b3 [.int 1,.ref b1] [] 0 24 118 182 K (hw 67) (hw 68) (hw 70) (hw 69) (hw 71) (hw 11) (oNF (hw 70)) (own_add2_1_12 @hw ) (lenOf pd_15 rfl) at_179 ?_
  rintro _ rfl
  refine Yh 184 K at_182 <|Gb 186 K at_184 ?_
  have hwh2:=oWhI ev84 (by omega)
  have hwv2:=oI2D ev84
  refine oPk3 ?_
  refine Yu b3 [.double v84] [] 0 25 120 189 K (hw 93) (hw 94) (hw 96) (hw 95) (hw 97) (hw 11) (oNF (hw 96)) (own_find1_2_2 @hw (ocs:=[dz0,dz1,dz2,dz3]) (cnt:=4) (rds:=rdsF) (cvs:=cvsF) (ch:=1) (by omega) (by omega) (by omega) (by decide) hO hS (Nat.le_of_ble_eq_true rfl) hSt hwh2 hwv2 (by omega) (by omega) (by omega) ⟨by omega,by omega⟩ (by omega) (by decide) (by decide) (by decide) (by decide) ht10 ht11 hC1) (lenOf pd_19 rfl) at_186 ?_
  rintro _ _ ⟨j13,rdsE,rfl,rfl,hlE⟩
  refine Yj 191 K at_189 U17 <|Yb 193 K at_191 <|Yh 195 K at_193 <|Yf 0 2 196 K at_195 ?_
  refine Yx 201 199 K at_196 <|Yh 203 K at_201 <|Yd 0 204 K at_203 ?_
  refine Yu b3 [.int 0] [] 0 25 120 207 K (hw 184) (hw 185) (hw 187) (hw 186) (hw 188) (hw 11) (oNF (hw 187)) (own_len0 @hw (oLen0' (by omega))) (lenOf pd_20 rfl) at_204 ?_
  rintro _ _ ⟨rfl,rfl⟩
  refine Yd 1 208 K at_207 ?_
  refine Yx 213 211 K at_208 <|Yh 215 K at_213 <|Yf 0 2 216 K at_215 <|Yd 2 217 K at_216 ?_
  refine Gr 232 220 K at_217 <|Yh 222 K at_220 <|Yd 1 223 K at_222 ?_
  refine Yu b3 [.int 1] [] 0 25 120 226 K (hw 184) (hw 185) (hw 187) (hw 186) (hw 188) (hw 11) (oNF (hw 187)) (own_len1 @hw (oLen1 (by omega))) (lenOf pd_20 rfl) at_223 ?_
  rintro _ _ ⟨rfl,rfl⟩
  refine Yd 1 227 K at_226 ?_
  refine Yx 232 230 K at_227 <|Yd 1 233 K at_232 ?_
  exact Y5 K at_233 ⟨_,rfl,rfl⟩
 rcases hps2 with ⟨u0,rfl,hua,hub⟩|⟨u0,u1,rfl,hua,hub,huc⟩
 ·refine Yh 175 K at_173 <|Yb 177 K at_175 <|Yh 179 K at_177 ?_
  refine Y7 b3 [.int 2,.ref b2] [] 0 24 118 182 K (hw 67) (hw 68) (hw 70) (hw 69) (hw 71) (hw 11) (oNF (hw 70)) (own_add3_2_221 @hw (by omega) hchd (by omega) (by omega) (by omega) (by omega)) (lenOf pd_15 rfl) at_179 ?_
  rintro _ ⟨k10,k11,k12,kz0,kz1,kz2,kz3,kz4,rfl,hchk,hmk⟩
  have hmk':=fun v : Int=>(hmk v).trans (or_congr (hmd' v) Iff.rfl)
  have hO : oEnt [kz0,kz1,kz2,kz3,kz4,0,0,0] 5 2:=(oEntOf (es:=[kz0,kz1,kz2,kz3,kz4]) (rest:=[0,0,0]) rfl (fun x hx=>by simp only [List.mem_cons,List.not_mem_nil,or_false] at hx; have hy : x.toInt=kz0.toInt∨x.toInt=kz1.toInt∨x.toInt=kz2.toInt∨x.toInt=kz3.toInt∨x.toInt=kz4.toInt:=(by rcases hx with rfl|rfl|rfl|rfl|rfl<;>simp); rcases (hmk' x.toInt).mp hy with ((h|h)|(h|h))|(h)<;>exact oPW h (by omega) (by decide)))
  have hS : oSrt [kz0,kz1,kz2,kz3,kz4,0,0,0] 5:=(oSrtOf (es:=[kz0,kz1,kz2,kz3,kz4]) (rest:=[0,0,0]) hchk rfl)
  obtain ⟨ti20,tx20,ht20⟩ : ∃ (i : Nat) (x : Int64),i < 5∧([kz0,kz1,kz2,kz3,kz4,0,0,0] : List Int64)[i]?=some x∧x.toInt=u0.toInt * 4294967296 + 2:=(fun h=>h.elim (fun h=>⟨0,kz0,by decide,rfl,h.symm⟩) (fun h=>h.elim (fun h=>⟨1,kz1,by decide,rfl,h.symm⟩) (fun h=>h.elim (fun h=>⟨2,kz2,by decide,rfl,h.symm⟩) (fun h=>h.elim (fun h=>⟨3,kz3,by decide,rfl,h.symm⟩) (fun h=>⟨4,kz4,by decide,rfl,h.symm⟩))))) ((hmk' _).mpr (Or.inr (rfl)))
  have hC2 : ∀ (i : Nat) (x : Int64) (p : Int),i < 5→([kz0,kz1,kz2,kz3,kz4,0,0,0] : List Int64)[i]?=some x→x.toInt=p * 4294967296 + 2→p=u0.toInt:=(fun i x p hi q e=>by have hx:=List.mem_of_getElem? (oApp (es:=[kz0,kz1,kz2,kz3,kz4]) (rest:=[0,0,0]) hi q); simp only [List.mem_cons,List.not_mem_nil,or_false] at hx; have hy : x.toInt=kz0.toInt∨x.toInt=kz1.toInt∨x.toInt=kz2.toInt∨x.toInt=kz3.toInt∨x.toInt=kz4.toInt:=(by rcases hx with rfl|rfl|rfl|rfl|rfl<;>simp); rcases (hmk' x.toInt).mp hy with ((h|h)|(h|h))|(h)<;>omega)
  refine Yh 184 K at_182 <|Gb 186 K at_184 ?_
  have hwh2:=oWhI ev84 (by omega)
  have hwv2:=oI2D ev84
  refine oPk4 ?_
  refine Yu b3 [.double v84] [] 0 25 120 189 K (hw 93) (hw 94) (hw 96) (hw 95) (hw 97) (hw 11) (oNF (hw 96)) (own_find1_1_2 @hw (ocs:=[kz0,kz1,kz2,kz3,kz4,0,0,0]) (cnt:=5) (rds:=[0,0,0,0,0,0,0,0]) (cvs:=[.int 0,.int 0,.int 0,.int 0,.int 0,.int 0,.int 0,.int 0]) (ch:=2) (by omega) (by decide) hO hS (Nat.le_of_ble_eq_true rfl) hSt hwh2 hwv2 (by omega) (by omega) (by omega) ⟨Nat.le_of_ble_eq_true rfl,Nat.le_of_ble_eq_true rfl⟩ (Nat.le_of_ble_eq_true rfl) (by decide) (by decide) (by decide) (by decide) ht20 hC2) (lenOf pd_19 rfl) at_186 ?_
  rintro _ _ ⟨j13,rdsE,rfl,rfl,hlE⟩
  refine Yj 191 K at_189 U17 <|Yb 193 K at_191 <|Yh 195 K at_193 <|Yf 0 1 196 K at_195 ?_
  refine Yx 201 199 K at_196 <|Yh 203 K at_201 <|Yd 0 204 K at_203 ?_
  refine Yu b3 [.int 0] [] 0 25 120 207 K (hw 184) (hw 185) (hw 187) (hw 186) (hw 188) (hw 11) (oNF (hw 187)) (own_len0 @hw (oLen0 (Nat.le_of_ble_eq_true rfl))) (lenOf pd_20 rfl) at_204 ?_
  rintro _ _ ⟨rfl,rfl⟩
  refine Yd 1 208 K at_207 ?_
  refine Yx 213 211 K at_208 <|Yh 215 K at_213 <|Yf 0 1 216 K at_215 <|Yd 2 217 K at_216 ?_
  refine Gj 232 220 K at_217 <|Yd 1 233 K at_232 ?_
  exact Y5 K at_233 ⟨_,rfl,rfl⟩
 refine Yh 175 K at_173 <|Yb 177 K at_175 <|Yh 179 K at_177 ?_
 refine Y7 b3 [.int 2,.ref b2] [] 0 24 118 182 K (hw 67) (hw 68) (hw 70) (hw 69) (hw 71) (hw 11) (oNF (hw 70)) (own_add3_2_222 @hw (by omega) (by omega) (by omega) hchd (by omega) (by omega) (by omega) (by omega) (by omega) (by omega) (by omega) (by omega)) (lenOf pd_15 rfl) at_179 ?_
 rintro _ ⟨k10,k11,k12,kz0,kz1,kz2,kz3,kz4,kz5,rfl,hchk,hmk⟩
 have hmk':=fun v : Int=>(hmk v).trans (or_congr (hmd' v) Iff.rfl)
 have hO : oEnt [kz0,kz1,kz2,kz3,kz4,kz5,0,0] 6 2:=(oEntOf (es:=[kz0,kz1,kz2,kz3,kz4,kz5]) (rest:=[0,0]) rfl (fun x hx=>by simp only [List.mem_cons,List.not_mem_nil,or_false] at hx; have hy : x.toInt=kz0.toInt∨x.toInt=kz1.toInt∨x.toInt=kz2.toInt∨x.toInt=kz3.toInt∨x.toInt=kz4.toInt∨x.toInt=kz5.toInt:=(by rcases hx with rfl|rfl|rfl|rfl|rfl|rfl<;>simp); rcases (hmk' x.toInt).mp hy with ((h|h)|(h|h))|(h|h)<;>exact oPW h (by omega) (by decide)))
 have hS : oSrt [kz0,kz1,kz2,kz3,kz4,kz5,0,0] 6:=(oSrtOf (es:=[kz0,kz1,kz2,kz3,kz4,kz5]) (rest:=[0,0]) hchk rfl)
 obtain ⟨ti20,tx20,ht20⟩ : ∃ (i : Nat) (x : Int64),i < 6∧([kz0,kz1,kz2,kz3,kz4,kz5,0,0] : List Int64)[i]?=some x∧x.toInt=u0.toInt * 4294967296 + 2:=(fun h=>h.elim (fun h=>⟨0,kz0,by decide,rfl,h.symm⟩) (fun h=>h.elim (fun h=>⟨1,kz1,by decide,rfl,h.symm⟩) (fun h=>h.elim (fun h=>⟨2,kz2,by decide,rfl,h.symm⟩) (fun h=>h.elim (fun h=>⟨3,kz3,by decide,rfl,h.symm⟩) (fun h=>h.elim (fun h=>⟨4,kz4,by decide,rfl,h.symm⟩) (fun h=>⟨5,kz5,by decide,rfl,h.symm⟩)))))) ((hmk' _).mpr (Or.inr (Or.inl rfl)))
 obtain ⟨ti21,tx21,ht21⟩ : ∃ (i : Nat) (x : Int64),i < 6∧([kz0,kz1,kz2,kz3,kz4,kz5,0,0] : List Int64)[i]?=some x∧x.toInt=u1.toInt * 4294967296 + 2:=(fun h=>h.elim (fun h=>⟨0,kz0,by decide,rfl,h.symm⟩) (fun h=>h.elim (fun h=>⟨1,kz1,by decide,rfl,h.symm⟩) (fun h=>h.elim (fun h=>⟨2,kz2,by decide,rfl,h.symm⟩) (fun h=>h.elim (fun h=>⟨3,kz3,by decide,rfl,h.symm⟩) (fun h=>h.elim (fun h=>⟨4,kz4,by decide,rfl,h.symm⟩) (fun h=>⟨5,kz5,by decide,rfl,h.symm⟩)))))) ((hmk' _).mpr (Or.inr (Or.inr (rfl))))
 have hC2 : ∀ (i : Nat) (x : Int64) (p : Int),i < 6→([kz0,kz1,kz2,kz3,kz4,kz5,0,0] : List Int64)[i]?=some x→x.toInt=p * 4294967296 + 2→p=u0.toInt∨p=u1.toInt:=(fun i x p hi q e=>by have hx:=List.mem_of_getElem? (oApp (es:=[kz0,kz1,kz2,kz3,kz4,kz5]) (rest:=[0,0]) hi q); simp only [List.mem_cons,List.not_mem_nil,or_false] at hx; have hy : x.toInt=kz0.toInt∨x.toInt=kz1.toInt∨x.toInt=kz2.toInt∨x.toInt=kz3.toInt∨x.toInt=kz4.toInt∨x.toInt=kz5.toInt:=(by rcases hx with rfl|rfl|rfl|rfl|rfl|rfl<;>simp); rcases (hmk' x.toInt).mp hy with ((h|h)|(h|h))|(h|h)<;>omega)
 refine Yh 184 K at_182 <|Gb 186 K at_184 ?_
 have hwh2:=oWhI ev84 (by omega)
 have hwv2:=oI2D ev84
 refine oPk4 ?_
 refine Yu b3 [.double v84] [] 0 25 120 189 K (hw 93) (hw 94) (hw 96) (hw 95) (hw 97) (hw 11) (oNF (hw 96)) (own_find1_2_2 @hw (ocs:=[kz0,kz1,kz2,kz3,kz4,kz5,0,0]) (cnt:=6) (rds:=[0,0,0,0,0,0,0,0]) (cvs:=[.int 0,.int 0,.int 0,.int 0,.int 0,.int 0,.int 0,.int 0]) (ch:=2) (by omega) (by omega) (by omega) (by decide) hO hS (Nat.le_of_ble_eq_true rfl) hSt hwh2 hwv2 (by omega) (by omega) (by omega) ⟨Nat.le_of_ble_eq_true rfl,Nat.le_of_ble_eq_true rfl⟩ (Nat.le_of_ble_eq_true rfl) (by decide) (by decide) (by decide) (by decide) ht20 ht21 hC2) (lenOf pd_19 rfl) at_186 ?_
 rintro _ _ ⟨j13,rdsE,rfl,rfl,hlE⟩
 refine Yj 191 K at_189 U17 <|Yb 193 K at_191 <|Yh 195 K at_193 <|Yf 0 2 196 K at_195 ?_
 refine Yx 201 199 K at_196 <|Yh 203 K at_201 <|Yd 0 204 K at_203 ?_
 refine Yu b3 [.int 0] [] 0 25 120 207 K (hw 184) (hw 185) (hw 187) (hw 186) (hw 188) (hw 11) (oNF (hw 187)) (own_len0 @hw (oLen0' (Nat.le_of_ble_eq_true rfl))) (lenOf pd_20 rfl) at_204 ?_
 rintro _ _ ⟨rfl,rfl⟩
 refine Yd 1 208 K at_207 ?_
 refine Yx 213 211 K at_208 <|Yh 215 K at_213 <|Yf 0 2 216 K at_215 <|Yd 2 217 K at_216 ?_
 refine Gr 232 220 K at_217 <|Yh 222 K at_220 <|Yd 1 223 K at_222 ?_
 refine Yu b3 [.int 1] [] 0 25 120 226 K (hw 184) (hw 185) (hw 187) (hw 186) (hw 188) (hw 11) (oNF (hw 187)) (own_len1 @hw (oLen1 (Nat.le_of_ble_eq_true rfl))) (lenOf pd_20 rfl) at_223 ?_
 rintro _ _ ⟨rfl,rfl⟩
 refine Yd 1 227 K at_226 ?_
 refine Yx 232 230 K at_227 <|Yd 1 233 K at_232 ?_
 exact Y5 K at_233 ⟨_,rfl,rfl⟩
end Own
set_option maxRecDepth 65536 in
set_option maxHeartbeats 40000000 in
theorem comes_1 {Post : Tables → Env → Array Value → State → Outcome → State → Prop} (hpost : ∀ tb e args s v u, (limb_1_1.after args s (.returned v) u = true ∧ limb_1_2.after args s (.returned v) u = true ∧ True) → FrameEnd s (.returned v) u (Jvm.fieldLocs frame_1_writes args s ++ Jvm.arrayLocs frame_1_arrays args s ++ Jvm.staticLocs frame_1_statics s) 64 256 → Post tb e args s (.returned v) u) :
    ArmFor flags0 classFile x code maxLocals ret World_1 tables_1 room_1 Calls_1 rest_1 Pre_1 Post := by
  intro l hfl _ _ p e ha hc hk s m args below hf hA hF happ hP
  obtain ⟨hcalls, hrest, hpre⟩ := hP
  obtain ⟨-, -, -, hnamed, -, -, -, hat⟩ := (Spec.applies_iff hf).mp happ
  obtain ⟨hg, hn⟩ := and_e (Cond.before_iff.mp (show (Jvm.Cond.and given_1 narrow_1).before args s = true from hpre))
  obtain ⟨hcount, g0⟩ := and_e hg
  obtain ⟨k0, g1⟩ := and_e g0
  obtain ⟨k1, g2⟩ := and_e g1
  obtain ⟨k2, g3⟩ := and_e g2
  obtain ⟨k3, g4⟩ := and_e g3
  obtain ⟨w0, w1, w2, w3, w4, rfl⟩ : ∃ w0 w1 w2 w3 w4 : Value, args = #[w0, w1, w2, w3, w4] := by
    have hs : args.size = 5 := by simpa [Cond.value, given_1] using hcount
    obtain ⟨L⟩ := args
    match L, hs with
    | [w0, w1, w2, w3, w4], _ => exact ⟨w0, w1, w2, w3, w4, rfl⟩
  have hw := fun d (hd : d ∈ tables_1) => atoms_spec (ws := Jvm.Cond.code x code maxLocals ret :: tables_1) hat d (List.mem_cons_of_mem _ hd)
  obtain ⟨i0, ei0⟩ := is_v k0
  obtain rfl : w0 = (.int i0) := Option.some.inj ei0
  obtain ⟨i1, ei1⟩ := is_v k1
  obtain rfl : w1 = (.int i1) := Option.some.inj ei1
  obtain ⟨i2, ei2⟩ := is_v k2
  obtain rfl : w2 = (.int i2) := Option.some.inj ei2
  obtain ⟨i3, ei3⟩ := is_v k3
  obtain rfl : w3 = (.int i3) := Option.some.inj ei3
  obtain ⟨i4, ei4⟩ := is_v g4
  obtain rfl : w4 = (.int i4) := Option.some.inj ei4
  obtain ⟨r1, hrr⟩ := and_e (Cond.before_iff.mp (show Jvm.Cond.before rest_1_c _ _ = true from hrest))
  obtain ⟨r2, hrr⟩ := and_e hrr
  obtain ⟨r3, -⟩ := and_e hrr
  obtain ⟨xv, y1, y2⟩ := Cond.eq_worth r3
  obtain rfl : xv = .int 1 := (Option.some.inj y2).symm
  have hSt := Sta.start y1 (Or.inl (Cond.before_iff.mpr r2))
  obtain ⟨n, o, h1, h2, h3, _, L, rfl, ⟨N, _, ⟨_, rfl, rfl⟩, _⟩, hq⟩ := (own_law (l := l) (h0 := s.heap) (@fun i d h => hw d (List.mem_of_getElem? h)) hSt i0 i1 i2 i3 i4) s.heap (oMem.start s s.heap) p e ha hc hk s m _ below hf ((Spec.applies_iff_loose hf).mp happ).1 ⟨rfl, State.Warmed39.refl s, rfl⟩ trivial
  refine ⟨n, _, h1, h2, h3, hpost _ _ _ _ _ _ ⟨Cond.after_iff.mpr rfl, Cond.after_iff.mpr (eq_i res_at (Term.int_eval (1)) rfl), trivial⟩ ⟨hq.1, hq.2.1, (hq.2.2.sift fun y hy => Or.inr (N y hy)).mono (by decide) (by decide)⟩⟩
theorem main_1_1 : Claimed_1_1 := comes_1 fun _ _ _ _ _ _ h hF => ⟨h.1, hF⟩
theorem main_1_2 : Claimed_1_2 := comes_1 fun _ _ _ _ _ _ h hF => ⟨h.2.1, hF⟩
end Jvm.Pilot.@@N@@
namespace Jvm.Pilot.@@N@@
open Jvm Jvm.ClassFile Sem Op Lib Jvm.Free Jvm.Stand Jvm.Pilot.@@N@@.Jvm.D
namespace start1
open Jvm.ClassFile
def u (s : String) : CpInfo := .utf8 (stringToUtf16 s)
def gap : Nat → List CpInfo → List CpInfo
  | 0, r => r
  | n + 1, r => .unusable :: gap n r
def poolList (es : List (Nat × CpInfo)) (last : Nat) : List CpInfo := es.foldr (fun e r => gap e.1 (e.2 :: r)) (gap last [])
def pool (es : List (Nat × CpInfo)) (last : Nat) : Array CpInfo := ⟨poolList es last⟩
def fileOf (pool : Array CpInfo) (this : Nat) (attrs : Array Attribute := #[]) (ms : Array MethodInfo := #[]) (fl : Nat := 33) (sup : Nat := 0) (ifs : Array Nat := #[]) (fds : Array FieldInfo := #[]) : ClassFile where
  minorVersion := 0
  majorVersion := 65
  constantPool := pool
  accessFlags := fl
  thisClass := this
  superClass := sup
  interfaces := ifs
  fields := fds
  methods := ms
  attributes := attrs
def plain (name : String) (sup : Option ClassId) : Class where
  name := name
  kind := .ordinary
  loader := none
  accessFlags := 33
  super := sup
  interfaces := #[]
  cf := none
  fields := #[]
  methods := #[]
  instanceTypes := #[]
  staticTypes := #[]
  resolved := #[]
  callSites := []
  init := .initialized
  statics := none
  mirror := none

def pool0 : Array CpInfo := pool [(5, u "<init>"), (0, u "()V"), (1, .class_ 10), (1, u "java/lang/Object")] 113

def k0c0 : Code := { maxStack := 0, maxLocals := 1, code := object_method_1_code, exceptionTable := #[], attributes := #[] }
def k0m0 : Method := { name := "<init>", desc := "()V", sig := { parameters := [], returnType := none }, accessFlags := 1, code := some k0c0 }
def k0 : Class := { plain "java/lang/Object" none with
  accessFlags := 33
  interfaces := #[]
  cf := some (fileOf pool0 8 #[] #[{ accessFlags := 1, nameIndex := 5, descriptorIndex := 6, attributes := #[] }] 33 0 #[] #[])
  fields := #[]
  methods := #[k0m0]
  instanceTypes := #[]
  staticTypes := #[]
  resolved := Array.replicate 124 none
  statics := none }

def pool1 : Array CpInfo := pool [(2, .class_ 4), (1, u "java/lang/Object"), (0, u "<init>"), (0, u "()V"), (0, .methodref 8 9), (0, .class_ 10), (0, .nameAndType 11 12), (0, u "com/example/term_proximity_ranking/termproximityranking/bm25/SpanCoversClearPinLaw"), (0, u "positionsOf"), (0, u "(II)[I"), (0, .methodref 14 15), (0, .class_ 16), (0, .nameAndType 17 18), (0, u "java/lang/Math"), (0, u "max"), (0, u "(II)I"), (0, .class_ 20), (0, u "com/example/term_proximity_ranking/termproximityranking/bm25/SpanCovers"), (0, .methodref 19 22), (0, .nameAndType 5 23), (0, u "(I)V"), (0, .methodref 19 25), (0, .nameAndType 26 23), (0, u "start"), (0, .methodref 19 28), (0, .nameAndType 29 30), (0, u "add"), (0, u "(I[I)V"), (0, .methodref 19 32), (0, .nameAndType 33 34), (0, u "find"), (0, u "(D)I"), (0, .methodref 19 36), (0, .nameAndType 37 6), (0, u "clear"), (0, .methodref 19 39), (0, .nameAndType 40 41), (0, u "length"), (0, u "(I)I"), (3, u "law"), (0, u "(IIIII)Z")] 4

def k1m0 : Method := { name := "<init>", desc := "()V", sig := { parameters := [], returnType := none }, accessFlags := 1, code := none }
def k1c1 : Code := { maxStack := 7, maxLocals := 5, code := method_2_code, exceptionTable := #[], attributes := #[] }
def k1m1 : Method := { name := "positionsOf", desc := "(II)[I", sig := { parameters := [.int, .int], returnType := some (.array .int) }, accessFlags := 10, code := some k1c1 }
def k1c2 : Code := { maxStack := 5, maxLocals := 18, code := code, exceptionTable := #[], attributes := #[] }
def k1m2 : Method := { name := "law", desc := "(IIIII)Z", sig := { parameters := [.int, .int, .int, .int, .int], returnType := some .boolean }, accessFlags := 9, code := some k1c2 }
def k1 : Class := { plain "com/example/term_proximity_ranking/termproximityranking/bm25/SpanCoversClearPinLaw" (some 0) with
  accessFlags := 49
  interfaces := #[]
  cf := some (fileOf pool1 8 #[] #[{ accessFlags := 1, nameIndex := 5, descriptorIndex := 6, attributes := #[] }, { accessFlags := 10, nameIndex := 11, descriptorIndex := 12, attributes := #[] }, { accessFlags := 9, nameIndex := 45, descriptorIndex := 46, attributes := #[] }] 49 2 #[] #[])
  fields := #[]
  methods := #[k1m0, k1m1, k1m2]
  instanceTypes := #[]
  staticTypes := #[]
  resolved := Array.replicate 51 none
  statics := none }

def pool2 : Array CpInfo := pool [(1, .class_ 2), (0, u "java/lang/Math"), (1, .class_ 6), (1, u "java/lang/Object"), (0, u "<init>"), (0, u "()V"), (1, .class_ 12), (1, u "java/lang/StrictMath"), (1, u "(D)D"), (37, u "(DD)D"), (3, .methodref 10 57), (0, .nameAndType 58 14), (0, u "floor"), (20, .methodref 80 81), (0, .class_ 82), (0, .nameAndType 83 84), (0, u "java/lang/Double"), (0, u "doubleToRawLongBits"), (0, u "(D)J"), (2, .long 9218868437227405312), (10, .class_ 100), (1, u "java/lang/Math$RandomNumberGeneratorHolder"), (20, u "(JJ)J"), (50, u "negativeZeroFloatBits"), (0, u "J"), (2, u "negativeZeroDoubleBits"), (21, u "max"), (2, u "min"), (43, u "$assertionsDisabled"), (0, u "Z"), (33, u "getExponent"), (0, u "(D)I"), (40, .long 1023), (12, u "(II)I"), (2, u "twoToTheDoubleScaleDown"), (0, u "D"), (4, u "twoToTheDoubleScaleUp"), (9, u "E"), (3, u "PI"), (2, u "TAU"), (2, u "DEGREES_TO_RADIANS"), (0, u "RADIANS_TO_DEGREES")] 94

def k2m0 : Method := { name := "<init>", desc := "()V", sig := { parameters := [], returnType := none }, accessFlags := 2, code := none }
def k2c1 : Code := { maxStack := 2, maxLocals := 2, code := jdk_29_method_17_code, exceptionTable := #[], attributes := #[] }
def k2m1 : Method := { name := "floor", desc := "(D)D", sig := { parameters := [.double], returnType := some .double }, accessFlags := 9, code := some k2c1 }
def k2c2 : Code := { maxStack := 2, maxLocals := 2, code := jdk_29_method_65_code, exceptionTable := #[], attributes := #[] }
def k2m2 : Method := { name := "max", desc := "(II)I", sig := { parameters := [.int, .int], returnType := some .int }, accessFlags := 9, code := some k2c2 }
def k2c3 : Code := { maxStack := 2, maxLocals := 2, code := jdk_29_method_69_code, exceptionTable := #[], attributes := #[] }
def k2m3 : Method := { name := "min", desc := "(II)I", sig := { parameters := [.int, .int], returnType := some .int }, accessFlags := 9, code := some k2c3 }
def k2c4 : Code := { maxStack := 4, maxLocals := 4, code := jdk_29_method_70_code, exceptionTable := #[], attributes := #[] }
def k2m4 : Method := { name := "min", desc := "(JJ)J", sig := { parameters := [.long, .long], returnType := some .long }, accessFlags := 9, code := some k2c4 }
def k2c5 : Code := { maxStack := 4, maxLocals := 4, code := jdk_29_method_72_code, exceptionTable := #[], attributes := #[] }
def k2m5 : Method := { name := "min", desc := "(DD)D", sig := { parameters := [.double, .double], returnType := some .double }, accessFlags := 9, code := some k2c5 }
def k2c6 : Code := { maxStack := 4, maxLocals := 2, code := jdk_29_method_92_code, exceptionTable := #[], attributes := #[] }
def k2m6 : Method := { name := "getExponent", desc := "(D)I", sig := { parameters := [.double], returnType := some .int }, accessFlags := 9, code := some k2c6 }
def k2 : Class := { plain "java/lang/Math" (some 0) with
  accessFlags := 49
  interfaces := #[]
  cf := some (fileOf pool2 1 #[.nestMembers #[98]] #[{ accessFlags := 2, nameIndex := 7, descriptorIndex := 8, attributes := #[] }, { accessFlags := 9, nameIndex := 58, descriptorIndex := 14, attributes := #[] }, { accessFlags := 9, nameIndex := 198, descriptorIndex := 335, attributes := #[] }, { accessFlags := 9, nameIndex := 201, descriptorIndex := 335, attributes := #[] }, { accessFlags := 9, nameIndex := 201, descriptorIndex := 121, attributes := #[] }, { accessFlags := 9, nameIndex := 201, descriptorIndex := 52, attributes := #[] }, { accessFlags := 9, nameIndex := 280, descriptorIndex := 281, attributes := #[] }] 49 4 #[] #[{ accessFlags := 25, nameIndex := 354, descriptorIndex := 339, attributes := #[] }, { accessFlags := 25, nameIndex := 358, descriptorIndex := 339, attributes := #[] }, { accessFlags := 25, nameIndex := 361, descriptorIndex := 339, attributes := #[] }, { accessFlags := 26, nameIndex := 364, descriptorIndex := 339, attributes := #[] }, { accessFlags := 26, nameIndex := 365, descriptorIndex := 339, attributes := #[] }, { accessFlags := 26, nameIndex := 172, descriptorIndex := 173, attributes := #[] }, { accessFlags := 26, nameIndex := 176, descriptorIndex := 173, attributes := #[] }, { accessFlags := 8, nameIndex := 344, descriptorIndex := 339, attributes := #[] }, { accessFlags := 8, nameIndex := 338, descriptorIndex := 339, attributes := #[] }, { accessFlags := 4120, nameIndex := 245, descriptorIndex := 246, attributes := #[] }])
  fields := #[{ name := "E", type := .double, accessFlags := 25, slot := 0, constantValue := 0 }, { name := "PI", type := .double, accessFlags := 25, slot := 1, constantValue := 0 }, { name := "TAU", type := .double, accessFlags := 25, slot := 2, constantValue := 0 }, { name := "DEGREES_TO_RADIANS", type := .double, accessFlags := 26, slot := 3, constantValue := 0 }, { name := "RADIANS_TO_DEGREES", type := .double, accessFlags := 26, slot := 4, constantValue := 0 }, { name := "negativeZeroFloatBits", type := .long, accessFlags := 26, slot := 5, constantValue := 0 }, { name := "negativeZeroDoubleBits", type := .long, accessFlags := 26, slot := 6, constantValue := 0 }, { name := "twoToTheDoubleScaleUp", type := .double, accessFlags := 8, slot := 7, constantValue := 0 }, { name := "twoToTheDoubleScaleDown", type := .double, accessFlags := 8, slot := 8, constantValue := 0 }, { name := "$assertionsDisabled", type := .boolean, accessFlags := 4120, slot := 9, constantValue := 0 }]
  methods := #[k2m0, k2m1, k2m2, k2m3, k2m4, k2m5, k2m6]
  instanceTypes := #[]
  staticTypes := #[.double, .double, .double, .double, .double, .long, .long, .double, .double, .boolean]
  resolved := Array.replicate 460 none
  statics := none }

def pool3 : Array CpInfo := pool [(3, .methodref 4 5), (0, .class_ 6), (0, .nameAndType 7 8), (0, u "java/lang/Object"), (0, u "<init>"), (0, u "()V"), (0, .fieldref 10 11), (0, .class_ 12), (0, .nameAndType 13 14), (0, u "com/example/term_proximity_ranking/termproximityranking/bm25/SpanCovers"), (0, u "occurrences"), (0, u "[J"), (0, .fieldref 10 16), (0, .nameAndType 17 18), (0, u "farthest"), (0, u "[I"), (0, .fieldref 10 20), (0, .nameAndType 21 14), (0, u "read"), (0, .fieldref 10 23), (0, .nameAndType 24 18), (0, u "coverLengths"), (0, .fieldref 10 26), (0, .nameAndType 27 28), (0, u "merged"), (0, u "[Z"), (0, .fieldref 10 30), (0, .nameAndType 31 18), (0, u "mergedWords"), (0, .fieldref 10 33), (0, .nameAndType 34 18), (0, u "ranks"), (0, .integer 2147483647), (0, .methodref 37 38), (0, .class_ 39), (0, .nameAndType 40 41), (0, u "java/util/Arrays"), (0, u "fill"), (0, u "([II)V"), (0, .fieldref 10 43), (0, .nameAndType 44 18), (0, u "words"), (0, .class_ 18), (0, .fieldref 10 47), (0, .nameAndType 48 49), (0, u "positions"), (0, u "[[I"), (0, .fieldref 10 51), (0, .nameAndType 52 18), (0, u "kept"), (0, .methodref 10 54), (0, .nameAndType 55 8), (0, u "clear"), (0, .fieldref 10 57), (0, .nameAndType 58 59), (0, u "mergedCount"), (0, u "I"), (0, .fieldref 10 61), (0, .nameAndType 62 59), (0, u "occurrenceCount"), (0, .fieldref 10 64), (0, .nameAndType 65 59), (0, u "documentLength"), (0, .fieldref 10 67), (0, .nameAndType 68 59), (0, u "wordCount"), (0, .methodref 70 71), (0, .class_ 72), (0, .nameAndType 73 74), (0, u "java/lang/Math"), (0, u "max"), (0, u "(II)I"), (0, .methodref 37 76), (0, .nameAndType 77 78), (0, u "copyOf"), (0, u "([JI)[J"), (0, .methodref 80 81), (0, .class_ 82), (0, .nameAndType 83 84), (0, u "com/example/term_proximity_ranking/termproximityranking/bm25/Occurrences"), (0, u "addWord"), (0, u "([JI[II)I"), (0, .fieldref 10 86), (0, .nameAndType 87 18), (0, u "anchors"), (0, .fieldref 10 89), (0, .nameAndType 90 59), (0, u "widened"), (0, .methodref 10 92), (0, .nameAndType 93 8), (0, u "widen"), (0, .methodref 70 95), (0, .nameAndType 96 97), (0, u "floor"), (0, u "(D)D"), (0, .methodref 70 99), (0, .nameAndType 100 101), (0, u "min"), (0, u "(DD)D"), (0, .fieldref 10 103), (0, .nameAndType 104 59), (0, u "coverCount"), (0, .long 2147483647), (1, .methodref 70 108), (0, .nameAndType 100 109), (0, u "(JJ)J"), (0, .methodref 10 111), (0, .nameAndType 112 113), (0, u "readRange"), (0, u "(IID)I"), (0, .methodref 10 115), (0, .nameAndType 116 8), (0, u "restart"), (0, .methodref 37 118), (0, .nameAndType 40 119), (0, u "([IIII)V"), (0, .methodref 10 121), (0, .nameAndType 122 123), (0, u "distance"), (0, u "([II)I"), (0, .methodref 37 125), (0, .nameAndType 126 123), (0, u "binarySearch"), (0, .methodref 70 128), (0, .nameAndType 100 74), (0, .methodref 80 130), (0, .nameAndType 131 132), (0, u "firstAt"), (0, u "([JII)I"), (0, .methodref 80 134), (0, .nameAndType 135 136), (0, u "position"), (0, u "(J)I"), (0, .methodref 80 138), (0, .nameAndType 139 136), (0, u "word"), (0, .methodref 10 141), (0, .nameAndType 21 142), (0, u "(IID)Z"), (0, .fieldref 10 144), (0, .nameAndType 145 59), (0, u "readCount"), (0, .fieldref 10 147), (0, .nameAndType 148 59), (0, u "held"), (0, .fieldref 10 150), (0, .nameAndType 151 59), (0, u "earliest"), (0, .methodref 80 153), (0, .nameAndType 154 155), (0, u "of"), (0, u "(II)J"), (0, u "NONE"), (2, u "NOT_ADDED"), (0, u "(I)V"), (2, u "start"), (1, u "add"), (0, u "(I[I)V"), (0, u "find"), (0, u "(D)I"), (0, u "length"), (0, u "(I)I")] 2

def k3c0 : Code := { maxStack := 2, maxLocals := 2, code := prog_7_method_1_code, exceptionTable := #[], attributes := #[] }
def k3m0 : Method := { name := "<init>", desc := "(I)V", sig := { parameters := [.int], returnType := none }, accessFlags := 0, code := some k3c0 }
def k3c1 : Code := { maxStack := 3, maxLocals := 3, code := prog_7_method_2_code, exceptionTable := #[], attributes := #[] }
def k3m1 : Method := { name := "start", desc := "(I)V", sig := { parameters := [.int], returnType := none }, accessFlags := 0, code := some k3c1 }
def k3c2 : Code := { maxStack := 5, maxLocals := 5, code := prog_7_method_3_code, exceptionTable := #[], attributes := #[] }
def k3m2 : Method := { name := "add", desc := "(I[I)V", sig := { parameters := [.int, (.array .int)], returnType := none }, accessFlags := 0, code := some k3c2 }
def k3c3 : Code := { maxStack := 3, maxLocals := 2, code := prog_7_method_4_code, exceptionTable := #[], attributes := #[] }
def k3m3 : Method := { name := "clear", desc := "()V", sig := { parameters := [], returnType := none }, accessFlags := 0, code := some k3c3 }
def k3c4 : Code := { maxStack := 5, maxLocals := 10, code := prog_7_method_5_code, exceptionTable := #[], attributes := #[] }
def k3m4 : Method := { name := "find", desc := "(D)I", sig := { parameters := [.double], returnType := some .int }, accessFlags := 0, code := some k3c4 }
def k3c5 : Code := { maxStack := 2, maxLocals := 2, code := prog_7_method_6_code, exceptionTable := #[], attributes := #[] }
def k3m5 : Method := { name := "length", desc := "(I)I", sig := { parameters := [.int], returnType := some .int }, accessFlags := 0, code := some k3c5 }
def k3c6 : Code := { maxStack := 6, maxLocals := 3, code := prog_7_method_7_code, exceptionTable := #[], attributes := #[] }
def k3m6 : Method := { name := "widen", desc := "()V", sig := { parameters := [], returnType := none }, accessFlags := 2, code := some k3c6 }
def k3c7 : Code := { maxStack := 5, maxLocals := 5, code := prog_7_method_8_code, exceptionTable := #[], attributes := #[] }
def k3m7 : Method := { name := "distance", desc := "([II)I", sig := { parameters := [(.array .int), .int], returnType := some .int }, accessFlags := 10, code := some k3c7 }
def k3c8 : Code := { maxStack := 5, maxLocals := 8, code := prog_7_method_9_code, exceptionTable := #[], attributes := #[] }
def k3m8 : Method := { name := "readRange", desc := "(IID)I", sig := { parameters := [.int, .int, .double], returnType := some .int }, accessFlags := 2, code := some k3c8 }
def k3c9 : Code := { maxStack := 3, maxLocals := 2, code := prog_7_method_10_code, exceptionTable := #[], attributes := #[] }
def k3m9 : Method := { name := "restart", desc := "()V", sig := { parameters := [], returnType := none }, accessFlags := 2, code := some k3c9 }
def k3c10 : Code := { maxStack := 5, maxLocals := 6, code := prog_7_method_11_code, exceptionTable := #[], attributes := #[] }
def k3m10 : Method := { name := "read", desc := "(IID)Z", sig := { parameters := [.int, .int, .double], returnType := some .boolean }, accessFlags := 2, code := some k3c10 }
def k3 : Class := { plain "com/example/term_proximity_ranking/termproximityranking/bm25/SpanCovers" (some 0) with
  accessFlags := 48
  interfaces := #[]
  cf := some (fileOf pool3 10 #[] #[{ accessFlags := 0, nameIndex := 7, descriptorIndex := 160, attributes := #[] }, { accessFlags := 0, nameIndex := 163, descriptorIndex := 160, attributes := #[] }, { accessFlags := 0, nameIndex := 165, descriptorIndex := 166, attributes := #[] }, { accessFlags := 0, nameIndex := 55, descriptorIndex := 8, attributes := #[] }, { accessFlags := 0, nameIndex := 167, descriptorIndex := 168, attributes := #[] }, { accessFlags := 0, nameIndex := 169, descriptorIndex := 170, attributes := #[] }, { accessFlags := 2, nameIndex := 93, descriptorIndex := 8, attributes := #[] }, { accessFlags := 10, nameIndex := 122, descriptorIndex := 123, attributes := #[] }, { accessFlags := 2, nameIndex := 112, descriptorIndex := 113, attributes := #[] }, { accessFlags := 2, nameIndex := 116, descriptorIndex := 8, attributes := #[] }, { accessFlags := 2, nameIndex := 21, descriptorIndex := 142, attributes := #[] }] 48 4 #[] #[{ accessFlags := 26, nameIndex := 156, descriptorIndex := 59, attributes := #[] }, { accessFlags := 26, nameIndex := 159, descriptorIndex := 59, attributes := #[] }, { accessFlags := 2, nameIndex := 65, descriptorIndex := 59, attributes := #[] }, { accessFlags := 2, nameIndex := 13, descriptorIndex := 14, attributes := #[] }, { accessFlags := 2, nameIndex := 62, descriptorIndex := 59, attributes := #[] }, { accessFlags := 18, nameIndex := 27, descriptorIndex := 28, attributes := #[] }, { accessFlags := 18, nameIndex := 31, descriptorIndex := 18, attributes := #[] }, { accessFlags := 2, nameIndex := 58, descriptorIndex := 59, attributes := #[] }, { accessFlags := 18, nameIndex := 34, descriptorIndex := 18, attributes := #[] }, { accessFlags := 18, nameIndex := 44, descriptorIndex := 18, attributes := #[] }, { accessFlags := 18, nameIndex := 48, descriptorIndex := 49, attributes := #[] }, { accessFlags := 2, nameIndex := 68, descriptorIndex := 59, attributes := #[] }, { accessFlags := 2, nameIndex := 87, descriptorIndex := 18, attributes := #[] }, { accessFlags := 2, nameIndex := 17, descriptorIndex := 18, attributes := #[] }, { accessFlags := 2, nameIndex := 90, descriptorIndex := 59, attributes := #[] }, { accessFlags := 18, nameIndex := 52, descriptorIndex := 18, attributes := #[] }, { accessFlags := 2, nameIndex := 148, descriptorIndex := 59, attributes := #[] }, { accessFlags := 2, nameIndex := 21, descriptorIndex := 14, attributes := #[] }, { accessFlags := 2, nameIndex := 145, descriptorIndex := 59, attributes := #[] }, { accessFlags := 2, nameIndex := 151, descriptorIndex := 59, attributes := #[] }, { accessFlags := 2, nameIndex := 24, descriptorIndex := 18, attributes := #[] }, { accessFlags := 2, nameIndex := 104, descriptorIndex := 59, attributes := #[] }])
  fields := #[{ name := "NONE", type := .int, accessFlags := 26, slot := 0, constantValue := 0 }, { name := "NOT_ADDED", type := .int, accessFlags := 26, slot := 1, constantValue := 0 }, { name := "documentLength", type := .int, accessFlags := 2, slot := 0, constantValue := 0 }, { name := "occurrences", type := (.array .long), accessFlags := 2, slot := 1, constantValue := 0 }, { name := "occurrenceCount", type := .int, accessFlags := 2, slot := 2, constantValue := 0 }, { name := "merged", type := (.array .boolean), accessFlags := 18, slot := 3, constantValue := 0 }, { name := "mergedWords", type := (.array .int), accessFlags := 18, slot := 4, constantValue := 0 }, { name := "mergedCount", type := .int, accessFlags := 2, slot := 5, constantValue := 0 }, { name := "ranks", type := (.array .int), accessFlags := 18, slot := 6, constantValue := 0 }, { name := "words", type := (.array .int), accessFlags := 18, slot := 7, constantValue := 0 }, { name := "positions", type := (.array (.array .int)), accessFlags := 18, slot := 8, constantValue := 0 }, { name := "wordCount", type := .int, accessFlags := 2, slot := 9, constantValue := 0 }, { name := "anchors", type := (.array .int), accessFlags := 2, slot := 10, constantValue := 0 }, { name := "farthest", type := (.array .int), accessFlags := 2, slot := 11, constantValue := 0 }, { name := "widened", type := .int, accessFlags := 2, slot := 12, constantValue := 0 }, { name := "kept", type := (.array .int), accessFlags := 18, slot := 13, constantValue := 0 }, { name := "held", type := .int, accessFlags := 2, slot := 14, constantValue := 0 }, { name := "read", type := (.array .long), accessFlags := 2, slot := 15, constantValue := 0 }, { name := "readCount", type := .int, accessFlags := 2, slot := 16, constantValue := 0 }, { name := "earliest", type := .int, accessFlags := 2, slot := 17, constantValue := 0 }, { name := "coverLengths", type := (.array .int), accessFlags := 2, slot := 18, constantValue := 0 }, { name := "coverCount", type := .int, accessFlags := 2, slot := 19, constantValue := 0 }]
  methods := #[k3m0, k3m1, k3m2, k3m3, k3m4, k3m5, k3m6, k3m7, k3m8, k3m9, k3m10]
  instanceTypes := #[.int, (.array .long), .int, (.array .boolean), (.array .int), .int, (.array .int), (.array .int), (.array (.array .int)), .int, (.array .int), (.array .int), .int, (.array .int), .int, (.array .long), .int, .int, (.array .int), .int]
  staticTypes := #[.int, .int]
  resolved := Array.replicate 173 none
  statics := none }

def pool4 : Array CpInfo := pool [(2, .class_ 4), (1, u "java/lang/Object"), (0, u "<init>"), (0, u "()V"), (5, u "([IIII)V"), (0, .methodref 14 15), (0, .class_ 16), (0, .nameAndType 17 18), (0, u "java/util/Arrays"), (0, u "rangeCheck"), (0, u "(III)V"), (55, .class_ 76), (1, u "java/util/Arrays$NaturalOrder"), (36, .class_ 115), (1, u "java/util/Arrays$LegacyMergeSort"), (1, u "Z"), (32, .methodref 151 152), (0, .class_ 153), (0, .nameAndType 154 155), (0, u "java/lang/System"), (0, u "arraycopy"), (0, u "(Ljava/lang/Object;ILjava/lang/Object;II)V"), (49, .methodref 14 206), (0, .nameAndType 207 208), (0, u "binarySearch0"), (0, u "([JIIJ)I"), (0, .methodref 14 210), (0, .nameAndType 207 211), (0, u "([IIII)I"), (90, u "copyOf"), (1, .methodref 305 306), (0, .class_ 307), (0, .nameAndType 308 309), (0, u "java/lang/Math"), (0, u "min"), (0, u "(II)I"), (65, .class_ 376), (0, u "java/util/Arrays$ArrayList"), (68, u "$assertionsDisabled"), (269, u "MIN_ARRAY_SORT_GRAN"), (0, u "I"), (2, u "INSERTIONSORT_THRESHOLD"), (74, u "binarySearch"), (4, u "([II)I"), (40, u "fill"), (4, u "([II)V"), (26, u "([JI)[J"), (102, .class_ 976), (0, u "java/util/Arrays$ArrayItr")] 52

def k4m0 : Method := { name := "<init>", desc := "()V", sig := { parameters := [], returnType := none }, accessFlags := 2, code := none }
def k4c1 : Code := { maxStack := 4, maxLocals := 3, code := jdk_65_method_30_code, exceptionTable := #[], attributes := #[] }
def k4m1 : Method := { name := "rangeCheck", desc := "(III)V", sig := { parameters := [.int, .int, .int], returnType := none }, accessFlags := 8, code := some k4c1 }
def k4c2 : Code := { maxStack := 5, maxLocals := 5, code := jdk_65_method_55_code, exceptionTable := #[], attributes := #[] }
def k4m2 : Method := { name := "binarySearch", desc := "([JIIJ)I", sig := { parameters := [(.array .long), .int, .int, .long], returnType := some .int }, accessFlags := 9, code := some k4c2 }
def k4c3 : Code := { maxStack := 4, maxLocals := 10, code := jdk_65_method_56_code, exceptionTable := #[], attributes := #[] }
def k4m3 : Method := { name := "binarySearch0", desc := "([JIIJ)I", sig := { parameters := [(.array .long), .int, .int, .long], returnType := some .int }, accessFlags := 10, code := some k4c3 }
def k4c4 : Code := { maxStack := 4, maxLocals := 2, code := jdk_65_method_57_code, exceptionTable := #[], attributes := #[] }
def k4m4 : Method := { name := "binarySearch", desc := "([II)I", sig := { parameters := [(.array .int), .int], returnType := some .int }, accessFlags := 9, code := some k4c4 }
def k4c5 : Code := { maxStack := 2, maxLocals := 8, code := jdk_65_method_59_code, exceptionTable := #[], attributes := #[] }
def k4m5 : Method := { name := "binarySearch0", desc := "([IIII)I", sig := { parameters := [(.array .int), .int, .int, .int], returnType := some .int }, accessFlags := 10, code := some k4c5 }
def k4c6 : Code := { maxStack := 3, maxLocals := 4, code := jdk_65_method_103_code, exceptionTable := #[], attributes := #[] }
def k4m6 : Method := { name := "fill", desc := "([II)V", sig := { parameters := [(.array .int), .int], returnType := none }, accessFlags := 9, code := some k4c6 }
def k4c7 : Code := { maxStack := 3, maxLocals := 5, code := jdk_65_method_104_code, exceptionTable := #[], attributes := #[] }
def k4m7 : Method := { name := "fill", desc := "([IIII)V", sig := { parameters := [(.array .int), .int, .int, .int], returnType := none }, accessFlags := 9, code := some k4c7 }
def k4c8 : Code := { maxStack := 6, maxLocals := 3, code := jdk_65_method_124_code, exceptionTable := #[], attributes := #[] }
def k4m8 : Method := { name := "copyOf", desc := "([JI)[J", sig := { parameters := [(.array .long), .int], returnType := some (.array .long) }, accessFlags := 9, code := some k4c8 }
def k4 : Class := { plain "java/util/Arrays" (some 0) with
  accessFlags := 49
  interfaces := #[]
  cf := some (fileOf pool4 14 #[.nestMembers #[975, 375, 113, 74]] #[{ accessFlags := 2, nameIndex := 5, descriptorIndex := 6, attributes := #[] }, { accessFlags := 8, nameIndex := 17, descriptorIndex := 18, attributes := #[] }, { accessFlags := 9, nameIndex := 794, descriptorIndex := 208, attributes := #[] }, { accessFlags := 10, nameIndex := 207, descriptorIndex := 208, attributes := #[] }, { accessFlags := 9, nameIndex := 794, descriptorIndex := 799, attributes := #[] }, { accessFlags := 10, nameIndex := 207, descriptorIndex := 211, attributes := #[] }, { accessFlags := 9, nameIndex := 840, descriptorIndex := 845, attributes := #[] }, { accessFlags := 9, nameIndex := 840, descriptorIndex := 12, attributes := #[] }, { accessFlags := 9, nameIndex := 302, descriptorIndex := 872, attributes := #[] }] 49 2 #[] #[{ accessFlags := 26, nameIndex := 715, descriptorIndex := 716, attributes := #[] }, { accessFlags := 26, nameIndex := 719, descriptorIndex := 716, attributes := #[] }, { accessFlags := 4120, nameIndex := 445, descriptorIndex := 117, attributes := #[] }])
  fields := #[{ name := "MIN_ARRAY_SORT_GRAN", type := .int, accessFlags := 26, slot := 0, constantValue := 0 }, { name := "INSERTIONSORT_THRESHOLD", type := .int, accessFlags := 26, slot := 1, constantValue := 0 }, { name := "$assertionsDisabled", type := .boolean, accessFlags := 4120, slot := 2, constantValue := 0 }]
  methods := #[k4m0, k4m1, k4m2, k4m3, k4m4, k4m5, k4m6, k4m7, k4m8]
  instanceTypes := #[]
  staticTypes := #[.int, .int, .boolean]
  resolved := Array.replicate 1029 none
  statics := none }

def pool5 : Array CpInfo := pool [(2, .class_ 4), (1, u "java/lang/Object"), (0, u "<init>"), (0, u "()V"), (1, .class_ 10), (1, u "java/lang/System"), (0, u "allowSecurityManager"), (0, u "I"), (16, u "cons"), (0, u "Ljava/io/Console;"), (77, .class_ 110), (1, u "java/lang/System$CallersHolder"), (43, u "initialErrStream"), (0, u "Ljava/io/PrintStream;"), (19, u "security"), (0, u "Ljava/lang/SecurityManager;"), (31, .class_ 209), (0, u "java/lang/System$1"), (7, u "props"), (0, u "Ljava/util/Properties;"), (2, u "lineSeparator"), (0, u "Ljava/lang/String;"), (96, .class_ 321), (1, u "java/lang/System$LoggerFinder"), (5, .class_ 328), (0, u "java/lang/System$Logger"), (67, u "err"), (2, u "out"), (91, u "notSupportedJnuEncoding"), (15, u "in"), (17, u "initialIn"), (0, u "Ljava/io/InputStream;"), (35, u "bootLayer"), (0, u "Ljava/lang/ModuleLayer;"), (99, .class_ 664), (0, u "java/lang/System$2"), (9, u "NEVER"), (2, u "MAYBE"), (49, u "arraycopy"), (0, u "(Ljava/lang/Object;ILjava/lang/Object;II)V"), (72, .class_ 802), (0, u "java/lang/System$Logger$Level")] 31

def k5m0 : Method := { name := "<init>", desc := "()V", sig := { parameters := [], returnType := none }, accessFlags := 2, code := none }
def k5m1 : Method := { name := "arraycopy", desc := "(Ljava/lang/Object;ILjava/lang/Object;II)V", sig := { parameters := [(.object "java/lang/Object"), .int, (.object "java/lang/Object"), .int, .int], returnType := none }, accessFlags := 265, code := none }
def k5 : Class := { plain "java/lang/System" (some 0) with
  accessFlags := 49
  interfaces := #[]
  cf := some (fileOf pool5 8 #[.nestMembers #[319, 327, 801, 108, 663, 208]] #[{ accessFlags := 2, nameIndex := 5, descriptorIndex := 6, attributes := #[] }, { accessFlags := 265, nameIndex := 727, descriptorIndex := 728, attributes := #[] }] 49 2 #[] #[{ accessFlags := 25, nameIndex := 507, descriptorIndex := 526, attributes := #[] }, { accessFlags := 25, nameIndex := 399, descriptorIndex := 155, attributes := #[] }, { accessFlags := 25, nameIndex := 396, descriptorIndex := 155, attributes := #[] }, { accessFlags := 10, nameIndex := 525, descriptorIndex := 526, attributes := #[] }, { accessFlags := 26, nameIndex := 674, descriptorIndex := 12, attributes := #[] }, { accessFlags := 26, nameIndex := 677, descriptorIndex := 12, attributes := #[] }, { accessFlags := 10, nameIndex := 11, descriptorIndex := 12, attributes := #[] }, { accessFlags := 74, nameIndex := 175, descriptorIndex := 176, attributes := #[] }, { accessFlags := 10, nameIndex := 491, descriptorIndex := 222, attributes := #[] }, { accessFlags := 74, nameIndex := 29, descriptorIndex := 30, attributes := #[] }, { accessFlags := 74, nameIndex := 154, descriptorIndex := 155, attributes := #[] }, { accessFlags := 10, nameIndex := 217, descriptorIndex := 218, attributes := #[] }, { accessFlags := 10, nameIndex := 221, descriptorIndex := 222, attributes := #[] }, { accessFlags := 8, nameIndex := 562, descriptorIndex := 563, attributes := #[] }])
  fields := #[{ name := "in", type := (.object "java/io/InputStream"), accessFlags := 25, slot := 0, constantValue := 0 }, { name := "out", type := (.object "java/io/PrintStream"), accessFlags := 25, slot := 1, constantValue := 0 }, { name := "err", type := (.object "java/io/PrintStream"), accessFlags := 25, slot := 2, constantValue := 0 }, { name := "initialIn", type := (.object "java/io/InputStream"), accessFlags := 10, slot := 3, constantValue := 0 }, { name := "NEVER", type := .int, accessFlags := 26, slot := 4, constantValue := 0 }, { name := "MAYBE", type := .int, accessFlags := 26, slot := 5, constantValue := 0 }, { name := "allowSecurityManager", type := .int, accessFlags := 10, slot := 6, constantValue := 0 }, { name := "security", type := (.object "java/lang/SecurityManager"), accessFlags := 74, slot := 7, constantValue := 0 }, { name := "notSupportedJnuEncoding", type := (.object "java/lang/String"), accessFlags := 10, slot := 8, constantValue := 0 }, { name := "cons", type := (.object "java/io/Console"), accessFlags := 74, slot := 9, constantValue := 0 }, { name := "initialErrStream", type := (.object "java/io/PrintStream"), accessFlags := 74, slot := 10, constantValue := 0 }, { name := "props", type := (.object "java/util/Properties"), accessFlags := 10, slot := 11, constantValue := 0 }, { name := "lineSeparator", type := (.object "java/lang/String"), accessFlags := 10, slot := 12, constantValue := 0 }, { name := "bootLayer", type := (.object "java/lang/ModuleLayer"), accessFlags := 8, slot := 13, constantValue := 0 }]
  methods := #[k5m0, k5m1]
  instanceTypes := #[]
  staticTypes := #[(.object "java/io/InputStream"), (.object "java/io/PrintStream"), (.object "java/io/PrintStream"), (.object "java/io/InputStream"), .int, .int, .int, (.object "java/lang/SecurityManager"), (.object "java/lang/String"), (.object "java/io/Console"), (.object "java/io/PrintStream"), (.object "java/util/Properties"), (.object "java/lang/String"), (.object "java/lang/ModuleLayer")]
  resolved := Array.replicate 834 none
  statics := none }

def pool6 : Array CpInfo := pool [(2, .class_ 4), (1, u "java/lang/Object"), (0, u "<init>"), (0, u "()V"), (0, .methodref 8 9), (0, .class_ 10), (0, .nameAndType 11 12), (0, u "com/example/term_proximity_ranking/termproximityranking/bm25/Occurrences"), (0, u "of"), (0, u "(II)J"), (1, .class_ 16), (1, u "java/util/Arrays"), (2, .methodref 14 20), (0, .nameAndType 21 22), (0, u "binarySearch"), (0, u "([JIIJ)I"), (13, u "addWord"), (0, u "([JI[II)I"), (0, u "firstAt"), (0, u "([JII)I"), (0, u "position"), (0, u "(J)I"), (0, u "word")] 2

def k6m0 : Method := { name := "<init>", desc := "()V", sig := { parameters := [], returnType := none }, accessFlags := 2, code := none }
def k6c1 : Code := { maxStack := 4, maxLocals := 9, code := prog_6_method_3_code, exceptionTable := #[], attributes := #[] }
def k6m1 : Method := { name := "addWord", desc := "([JI[II)I", sig := { parameters := [(.array .long), .int, (.array .int), .int], returnType := some .int }, accessFlags := 8, code := some k6c1 }
def k6c2 : Code := { maxStack := 5, maxLocals := 4, code := prog_6_method_4_code, exceptionTable := #[], attributes := #[] }
def k6m2 : Method := { name := "firstAt", desc := "([JII)I", sig := { parameters := [(.array .long), .int, .int], returnType := some .int }, accessFlags := 8, code := some k6c2 }
def k6c3 : Code := { maxStack := 3, maxLocals := 2, code := prog_6_method_5_code, exceptionTable := #[], attributes := #[] }
def k6m3 : Method := { name := "position", desc := "(J)I", sig := { parameters := [.long], returnType := some .int }, accessFlags := 8, code := some k6c3 }
def k6c4 : Code := { maxStack := 2, maxLocals := 2, code := prog_6_method_6_code, exceptionTable := #[], attributes := #[] }
def k6m4 : Method := { name := "word", desc := "(J)I", sig := { parameters := [.long], returnType := some .int }, accessFlags := 8, code := some k6c4 }
def k6c5 : Code := { maxStack := 4, maxLocals := 2, code := prog_6_method_7_code, exceptionTable := #[], attributes := #[] }
def k6m5 : Method := { name := "of", desc := "(II)J", sig := { parameters := [.int, .int], returnType := some .long }, accessFlags := 8, code := some k6c5 }
def k6 : Class := { plain "com/example/term_proximity_ranking/termproximityranking/bm25/Occurrences" (some 0) with
  accessFlags := 48
  interfaces := #[]
  cf := some (fileOf pool6 8 #[] #[{ accessFlags := 2, nameIndex := 5, descriptorIndex := 6, attributes := #[] }, { accessFlags := 8, nameIndex := 36, descriptorIndex := 37, attributes := #[] }, { accessFlags := 8, nameIndex := 38, descriptorIndex := 39, attributes := #[] }, { accessFlags := 8, nameIndex := 40, descriptorIndex := 41, attributes := #[] }, { accessFlags := 8, nameIndex := 42, descriptorIndex := 41, attributes := #[] }, { accessFlags := 8, nameIndex := 11, descriptorIndex := 12, attributes := #[] }] 48 2 #[] #[])
  fields := #[]
  methods := #[k6m0, k6m1, k6m2, k6m3, k6m4, k6m5]
  instanceTypes := #[]
  staticTypes := #[]
  resolved := Array.replicate 45 none
  statics := none }

def pool7 : Array CpInfo := pool [(1, .class_ 2), (0, u "java/lang/StrictMath"), (1, .class_ 6), (1, u "java/lang/Object"), (0, u "<init>"), (0, u "()V"), (5, u "(D)D"), (16, .class_ 33), (1, u "java/lang/Math"), (26, .methodref 1 61), (0, .nameAndType 62 63), (0, u "floorOrCeil"), (0, u "(DDDD)D"), (0, .double 13830554455654793216), (1, .methodref 31 67), (0, .nameAndType 68 69), (0, u "getExponent"), (0, u "(D)I"), (0, .fieldref 1 71), (0, .nameAndType 72 73), (0, u "$assertionsDisabled"), (0, u "Z"), (3, .methodref 78 79), (0, .class_ 80), (0, .nameAndType 81 82), (0, u "java/lang/Double"), (0, u "doubleToRawLongBits"), (0, u "(D)J"), (2, .long 4503599627370495), (28, .class_ 116), (1, u "java/lang/StrictMath$RandomNumberGeneratorHolder"), (222, u "E"), (0, u "D"), (3, u "PI"), (2, u "TAU"), (27, u "floor")] 60

def k7m0 : Method := { name := "<init>", desc := "()V", sig := { parameters := [], returnType := none }, accessFlags := 2, code := none }
def k7c1 : Code := { maxStack := 8, maxLocals := 2, code := jdk_128_method_17_code, exceptionTable := #[], attributes := #[] }
def k7m1 : Method := { name := "floor", desc := "(D)D", sig := { parameters := [.double], returnType := some .double }, accessFlags := 9, code := some k7c1 }
def k7c2 : Code := { maxStack := 6, maxLocals := 15, code := jdk_128_method_18_code, exceptionTable := #[], attributes := #[] }
def k7m2 : Method := { name := "floorOrCeil", desc := "(DDDD)D", sig := { parameters := [.double, .double, .double, .double], returnType := some .double }, accessFlags := 10, code := some k7c2 }
def k7 : Class := { plain "java/lang/StrictMath" (some 0) with
  accessFlags := 49
  interfaces := #[]
  cf := some (fileOf pool7 1 #[.nestMembers #[114]] #[{ accessFlags := 2, nameIndex := 7, descriptorIndex := 8, attributes := #[] }, { accessFlags := 9, nameIndex := 375, descriptorIndex := 14, attributes := #[] }, { accessFlags := 10, nameIndex := 62, descriptorIndex := 63, attributes := #[] }] 49 4 #[] #[{ accessFlags := 25, nameIndex := 339, descriptorIndex := 340, attributes := #[] }, { accessFlags := 25, nameIndex := 344, descriptorIndex := 340, attributes := #[] }, { accessFlags := 25, nameIndex := 347, descriptorIndex := 340, attributes := #[] }, { accessFlags := 4120, nameIndex := 72, descriptorIndex := 73, attributes := #[] }])
  fields := #[{ name := "E", type := .double, accessFlags := 25, slot := 0, constantValue := 0 }, { name := "PI", type := .double, accessFlags := 25, slot := 1, constantValue := 0 }, { name := "TAU", type := .double, accessFlags := 25, slot := 2, constantValue := 0 }, { name := "$assertionsDisabled", type := .boolean, accessFlags := 4120, slot := 3, constantValue := 0 }]
  methods := #[k7m0, k7m1, k7m2]
  instanceTypes := #[]
  staticTypes := #[.double, .double, .double, .boolean]
  resolved := Array.replicate 436 none
  statics := some 0 }

def pool8 : Array CpInfo := pool [(1, .class_ 2), (0, u "java/io/Serializable"), (0, .class_ 4), (0, u "java/lang/Object")] 2

def k8 : Class := { plain "java/io/Serializable" (some 0) with
  accessFlags := 1537
  interfaces := #[]
  cf := some (fileOf pool8 1 #[] #[] 1537 3 #[] #[])
  fields := #[]
  methods := #[]
  instanceTypes := #[]
  staticTypes := #[]
  resolved := Array.replicate 7 none
  statics := none }

def pool9 : Array CpInfo := pool [(2, .class_ 4), (1, u "java/lang/Object"), (0, u "<init>"), (0, u "()V"), (1, .class_ 10), (1, u "java/lang/Number"), (2, .class_ 14), (0, u "java/io/Serializable"), (0, u "serialVersionUID"), (0, u "J")] 20

def k9m0 : Method := { name := "<init>", desc := "()V", sig := { parameters := [], returnType := none }, accessFlags := 1, code := none }
def k9 : Class := { plain "java/lang/Number" (some 0) with
  accessFlags := 1057
  interfaces := #[8]
  cf := some (fileOf pool9 8 #[] #[{ accessFlags := 1, nameIndex := 5, descriptorIndex := 6, attributes := #[] }] 1057 2 #[13] #[{ accessFlags := 26, nameIndex := 15, descriptorIndex := 16, attributes := #[] }])
  fields := #[{ name := "serialVersionUID", type := .long, accessFlags := 26, slot := 0, constantValue := 0 }]
  methods := #[k9m0]
  instanceTypes := #[]
  staticTypes := #[.long]
  resolved := Array.replicate 37 none
  statics := none }

def pool10 : Array CpInfo := pool [(1, .class_ 2), (0, u "java/lang/Comparable"), (0, .class_ 4), (0, u "java/lang/Object")] 7

def k10 : Class := { plain "java/lang/Comparable" (some 0) with
  accessFlags := 1537
  interfaces := #[]
  cf := some (fileOf pool10 1 #[] #[] 1537 3 #[] #[])
  fields := #[]
  methods := #[]
  instanceTypes := #[]
  staticTypes := #[]
  resolved := Array.replicate 12 none
  statics := none }

def pool11 : Array CpInfo := pool [(1, .class_ 2), (0, u "java/lang/constant/Constable"), (0, .class_ 4), (0, u "java/lang/Object")] 6

def k11 : Class := { plain "java/lang/constant/Constable" (some 0) with
  accessFlags := 1537
  interfaces := #[]
  cf := some (fileOf pool11 1 #[] #[] 1537 3 #[] #[])
  fields := #[]
  methods := #[]
  instanceTypes := #[]
  staticTypes := #[]
  resolved := Array.replicate 11 none
  statics := none }

def pool12 : Array CpInfo := pool [(1, .class_ 2), (0, u "java/lang/constant/ConstantDesc"), (0, .class_ 4), (0, u "java/lang/Object")] 32

def k12 : Class := { plain "java/lang/constant/ConstantDesc" (some 0) with
  accessFlags := 1537
  interfaces := #[]
  cf := some (fileOf pool12 1 #[] #[] 1537 3 #[] #[])
  fields := #[]
  methods := #[]
  instanceTypes := #[]
  staticTypes := #[]
  resolved := Array.replicate 37 none
  statics := none }

def pool13 : Array CpInfo := pool [(1, .class_ 2), (0, u "java/lang/Double"), (46, u "(D)J"), (64, .class_ 116), (1, u "java/lang/Number"), (3, u "value"), (0, u "D"), (14, u "doubleToRawLongBits"), (36, u "TYPE"), (0, u "Ljava/lang/Class;"), (0, .class_ 176), (0, u "java/lang/Comparable"), (0, .class_ 178), (0, u "java/lang/constant/Constable"), (0, .class_ 180), (0, u "java/lang/constant/ConstantDesc"), (0, u "POSITIVE_INFINITY"), (3, u "NEGATIVE_INFINITY"), (2, u "NaN"), (2, u "MAX_VALUE"), (0, u "MIN_NORMAL"), (0, u "MIN_VALUE"), (2, u "SIZE"), (0, u "I"), (1, u "PRECISION"), (1, u "MAX_EXPONENT"), (1, u "MIN_EXPONENT"), (1, u "BYTES"), (3, u "serialVersionUID"), (0, u "J")] 79

def k13m0 : Method := { name := "doubleToRawLongBits", desc := "(D)J", sig := { parameters := [.double], returnType := some .long }, accessFlags := 265, code := none }
def k13 : Class := { plain "java/lang/Double" (some 9) with
  accessFlags := 49
  interfaces := #[10, 11, 12]
  cf := some (fileOf pool13 1 #[] #[{ accessFlags := 265, nameIndex := 136, descriptorIndex := 49, attributes := #[] }] 49 114 #[175, 177, 179] #[{ accessFlags := 25, nameIndex := 181, descriptorIndex := 121, attributes := #[] }, { accessFlags := 25, nameIndex := 185, descriptorIndex := 121, attributes := #[] }, { accessFlags := 25, nameIndex := 188, descriptorIndex := 121, attributes := #[] }, { accessFlags := 25, nameIndex := 191, descriptorIndex := 121, attributes := #[] }, { accessFlags := 25, nameIndex := 192, descriptorIndex := 121, attributes := #[] }, { accessFlags := 25, nameIndex := 193, descriptorIndex := 121, attributes := #[] }, { accessFlags := 25, nameIndex := 196, descriptorIndex := 197, attributes := #[] }, { accessFlags := 25, nameIndex := 199, descriptorIndex := 197, attributes := #[] }, { accessFlags := 25, nameIndex := 201, descriptorIndex := 197, attributes := #[] }, { accessFlags := 25, nameIndex := 203, descriptorIndex := 197, attributes := #[] }, { accessFlags := 25, nameIndex := 205, descriptorIndex := 197, attributes := #[] }, { accessFlags := 25, nameIndex := 173, descriptorIndex := 174, attributes := #[] }, { accessFlags := 18, nameIndex := 120, descriptorIndex := 121, attributes := #[] }, { accessFlags := 26, nameIndex := 209, descriptorIndex := 210, attributes := #[] }])
  fields := #[{ name := "POSITIVE_INFINITY", type := .double, accessFlags := 25, slot := 0, constantValue := 0 }, { name := "NEGATIVE_INFINITY", type := .double, accessFlags := 25, slot := 1, constantValue := 0 }, { name := "NaN", type := .double, accessFlags := 25, slot := 2, constantValue := 0 }, { name := "MAX_VALUE", type := .double, accessFlags := 25, slot := 3, constantValue := 0 }, { name := "MIN_NORMAL", type := .double, accessFlags := 25, slot := 4, constantValue := 0 }, { name := "MIN_VALUE", type := .double, accessFlags := 25, slot := 5, constantValue := 0 }, { name := "SIZE", type := .int, accessFlags := 25, slot := 6, constantValue := 0 }, { name := "PRECISION", type := .int, accessFlags := 25, slot := 7, constantValue := 0 }, { name := "MAX_EXPONENT", type := .int, accessFlags := 25, slot := 8, constantValue := 0 }, { name := "MIN_EXPONENT", type := .int, accessFlags := 25, slot := 9, constantValue := 0 }, { name := "BYTES", type := .int, accessFlags := 25, slot := 10, constantValue := 0 }, { name := "TYPE", type := (.object "java/lang/Class"), accessFlags := 25, slot := 11, constantValue := 0 }, { name := "value", type := .double, accessFlags := 18, slot := 0, constantValue := 0 }, { name := "serialVersionUID", type := .long, accessFlags := 26, slot := 12, constantValue := 0 }]
  methods := #[k13m0]
  instanceTypes := #[.double]
  staticTypes := #[.double, .double, .double, .double, .double, .double, .int, .int, .int, .int, .int, (.object "java/lang/Class"), .long]
  resolved := Array.replicate 290 none
  statics := none }

def pool14 : Array CpInfo := pool [(1, u "java/lang/Cloneable"), (0, .class_ 1), (0, u "java/lang/Object"), (0, .class_ 3)] 3

def k14 : Class := { plain "java/lang/Cloneable" (some 0) with
  accessFlags := 1537
  interfaces := #[]
  cf := some (fileOf pool14 2 #[] #[] 1537 4 #[] #[])
  fields := #[]
  methods := #[]
  instanceTypes := #[]
  staticTypes := #[]
  resolved := Array.replicate 8 none
  statics := none }

def k15 : Class := { plain "boolean" none with kind := .primitive 'Z', accessFlags := 0x411 }
def k16 : Class := { plain "[Z" (some 0) with kind := .array 15 .boolean, interfaces := #[14, 8], accessFlags := 1041 }

def k17 : Class := { plain "byte" none with kind := .primitive 'B', accessFlags := 0x411 }
def k18 : Class := { plain "[B" (some 0) with kind := .array 17 .byte, interfaces := #[14, 8], accessFlags := 1041 }

def k19 : Class := { plain "int" none with kind := .primitive 'I', accessFlags := 0x411 }
def k20 : Class := { plain "[I" (some 0) with kind := .array 19 .int, interfaces := #[14, 8], accessFlags := 1041 }

def k21 : Class := { plain "long" none with kind := .primitive 'J', accessFlags := 0x411 }
def k22 : Class := { plain "[J" (some 0) with kind := .array 21 .long, interfaces := #[14, 8], accessFlags := 1041 }

def k23 : Class := { plain "[[I" (some 0) with kind := .array 20 (.array .int), interfaces := #[14, 8], accessFlags := 1041 }

def heap : Heap := #[{ cls := 7, slots := #[.double 0, .double 0, .double 0, .int 1], vm := .statics 7 }]
def classes : Array Class := #[k0, k1, k2, k3, k4, k5, k6, k7, k8, k9, k10, k11, k12, k13, k14, k15, k16, k17, k18, k19, k20, k21, k22, k23]
def interned : List (Array UInt16 × Addr) := []
def slotsUsed : Nat := 4
def theMethod : MethodId := ⟨1, 2⟩
def args0 : Array Value := #[.int 3, .int 4, .int 5, .int 6, .int 7]
def aboutOver (below : List Frame) : State where
  vm := { classes := classes, interned := interned.toArray }
  heap := heap
  slotsUsed := slotsUsed
  threads := #[{ frames := .invoking theMethod args0 :: below }]
def below0 : List Frame := [.native { method := ⟨0, 0⟩, args := #[] }]
def about1 : State := aboutOver below0
def p0 : Program := .bare "" "" ""
def e0 : Env := launch0.env 0 0 0
theorem w_frames : about1.frames = Frame.invoking theMethod args0 :: below0 := rfl
set_option maxRecDepth 65536 in
theorem w_args : argsFit about1.vm theMethod args0 = true := by decide +kernel
set_option maxRecDepth 65536 in
theorem w_heap : heapFits about1 = true := by decide +kernel
set_option maxRecDepth 65536 in
theorem w_runnable : about1.curStatus? = some .runnable := by decide +kernel
set_option maxRecDepth 65536 in
theorem w_alone : about1.alone = true := by decide +kernel
set_option maxRecDepth 65536 in
theorem w_named : about1.methodNamed? x = some theMethod := by decide +kernel
set_option maxRecDepth 65536 in
theorem w_hears : about1.hears theMethod below0 = true := by decide +kernel
set_option maxRecDepth 65536 in
theorem w_ripe : about1.ripe theMethod args0 below0 = true := by decide +kernel
theorem w_running : about1.status = .running := rfl
set_option maxRecDepth 65536 in
theorem w_room : about1.hasRoom e0.platform room_1 = true :=
  launch0.hasRoom_least _ room_1 (by decide +kernel) (by decide +kernel) (by decide +kernel) (by decide +kernel) (by decide +kernel) (by decide +kernel)
theorem allAtoms_all (ts : List Jvm.Cond) (a : Array Jvm.Value) (st : Jvm.State) : (allAtoms ts).before a st = ts.all (fun c => c.before a st) := by
  induction ts with
  | nil => rfl
  | cons c t ih =>
    show (Jvm.Cond.and c (allAtoms t)).before a st = _
    rw [Jvm.Cond.before_and, ih, List.all_cons]
def words1 : List Jvm.Cond := Jvm.Cond.code x code maxLocals ret :: tables_1
theorem code_word {y : MethodName} {bytes : ByteArray} {mx : Nat} {rt : Option FieldType} {a : Array Value} {s : State} {m : MethodId} {meth : Method} {c : Code} (h1 : s.methodNamed? y = some m) (h2 : s.vm.method? m = some meth) (h3 : meth.code = some c) (h4 : c.code = bytes)
    (h5 : (c.maxLocals == mx && c.exceptionTable.isEmpty && decide (c.maxStack ≤ mostOperands) && decide (meth.sig.returnType = rt) && !meth.locks && decide (parseMethodDescriptor y.desc = some meth.sig)) = true) : (Jvm.Cond.code y bytes mx rt).before a s = true := by
  simp only [Bool.and_eq_true, beq_iff_eq, Bool.not_eq_true', decide_eq_true_eq] at h5
  obtain ⟨⟨⟨⟨⟨g1, g2⟩, g3⟩, g4⟩, g5⟩, g6⟩ := h5
  simp [Cond.before, Cond.holds, Cond.value, h1, h2, h3, h4, g1, g2, g3, g4, g5, g6]
def isCode : Jvm.Cond → Bool
  | .code _ _ _ _ => true
  | _ => false
theorem all_split {L : List Jvm.Cond} {P : Jvm.Cond → Bool} (h1 : L.all (fun c => isCode c || P c) = true) (h2 : ∀ c ∈ L.filter isCode, P c = true) : L.all P = true := by
  refine List.all_eq_true.mpr fun c hc => ?_
  have h := List.all_eq_true.mp h1 c hc
  rcases Bool.eq_false_or_eq_true (isCode c) with hi | hi
  · exact h2 c (List.mem_filter.mpr ⟨hc, hi⟩)
  · simpa [hi] using h
set_option maxRecDepth 65536 in
theorem w_c0 : (Jvm.Cond.code x code maxLocals ret).before args0 about1 = true := code_word (m := ⟨1, 2⟩) (meth := k1m2) (c := k1c2) (by decide +kernel) rfl rfl rfl (by decide +kernel)
set_option maxRecDepth 65536 in
theorem w_c1 : (Jvm.Cond.code ({ cls := "com/example/term_proximity_ranking/termproximityranking/bm25/SpanCoversClearPinLaw", name := "positionsOf", desc := "(II)[I" } : Jvm.MethodName) method_2_code (5 : Nat) (Option.some (Jvm.ClassFile.FieldType.array Jvm.ClassFile.FieldType.int))).before args0 about1 = true := code_word (m := ⟨1, 1⟩) (meth := k1m1) (c := k1c1) (by decide +kernel) rfl rfl rfl (by decide +kernel)
set_option maxRecDepth 65536 in
theorem w_c2 : (Jvm.Cond.code ({ cls := "java/lang/Math", name := "max", desc := "(II)I" } : Jvm.MethodName) jdk_29_method_65_code (2 : Nat) (Option.some Jvm.ClassFile.FieldType.int)).before args0 about1 = true := code_word (m := ⟨2, 2⟩) (meth := k2m2) (c := k2c2) (by decide +kernel) rfl rfl rfl (by decide +kernel)
set_option maxRecDepth 65536 in
theorem w_c3 : (Jvm.Cond.code ({ cls := "com/example/term_proximity_ranking/termproximityranking/bm25/SpanCovers", name := "<init>", desc := "(I)V" } : Jvm.MethodName) prog_7_method_1_code (2 : Nat) (Option.none : Option Jvm.ClassFile.FieldType)).before args0 about1 = true := code_word (m := ⟨3, 0⟩) (meth := k3m0) (c := k3c0) (by decide +kernel) rfl rfl rfl (by decide +kernel)
set_option maxRecDepth 65536 in
theorem w_c4 : (Jvm.Cond.code ({ cls := "java/lang/Object", name := "<init>", desc := "()V" } : Jvm.MethodName) object_method_1_code (1 : Nat) (Option.none : Option Jvm.ClassFile.FieldType)).before args0 about1 = true := code_word (m := ⟨0, 0⟩) (meth := k0m0) (c := k0c0) (by decide +kernel) rfl rfl rfl (by decide +kernel)
set_option maxRecDepth 65536 in
theorem w_c5 : (Jvm.Cond.code ({ cls := "java/util/Arrays", name := "fill", desc := "([II)V" } : Jvm.MethodName) jdk_65_method_103_code (4 : Nat) (Option.none : Option Jvm.ClassFile.FieldType)).before args0 about1 = true := code_word (m := ⟨4, 6⟩) (meth := k4m6) (c := k4c6) (by decide +kernel) rfl rfl rfl (by decide +kernel)
set_option maxRecDepth 65536 in
theorem w_c6 : (Jvm.Cond.code ({ cls := "com/example/term_proximity_ranking/termproximityranking/bm25/SpanCovers", name := "start", desc := "(I)V" } : Jvm.MethodName) prog_7_method_2_code (3 : Nat) (Option.none : Option Jvm.ClassFile.FieldType)).before args0 about1 = true := code_word (m := ⟨3, 1⟩) (meth := k3m1) (c := k3c1) (by decide +kernel) rfl rfl rfl (by decide +kernel)
set_option maxRecDepth 65536 in
theorem w_c7 : (Jvm.Cond.code ({ cls := "com/example/term_proximity_ranking/termproximityranking/bm25/SpanCovers", name := "clear", desc := "()V" } : Jvm.MethodName) prog_7_method_4_code (2 : Nat) (Option.none : Option Jvm.ClassFile.FieldType)).before args0 about1 = true := code_word (m := ⟨3, 3⟩) (meth := k3m3) (c := k3c3) (by decide +kernel) rfl rfl rfl (by decide +kernel)
set_option maxRecDepth 65536 in
theorem w_c8 : (Jvm.Cond.code ({ cls := "com/example/term_proximity_ranking/termproximityranking/bm25/SpanCovers", name := "add", desc := "(I[I)V" } : Jvm.MethodName) prog_7_method_3_code (5 : Nat) (Option.none : Option Jvm.ClassFile.FieldType)).before args0 about1 = true := code_word (m := ⟨3, 2⟩) (meth := k3m2) (c := k3c2) (by decide +kernel) rfl rfl rfl (by decide +kernel)
set_option maxRecDepth 65536 in
theorem w_c9 : (Jvm.Cond.code ({ cls := "java/util/Arrays", name := "copyOf", desc := "([JI)[J" } : Jvm.MethodName) jdk_65_method_124_code (3 : Nat) (Option.some (Jvm.ClassFile.FieldType.array Jvm.ClassFile.FieldType.long))).before args0 about1 = true := code_word (m := ⟨4, 8⟩) (meth := k4m8) (c := k4c8) (by decide +kernel) rfl rfl rfl (by decide +kernel)
set_option maxRecDepth 65536 in
theorem w_c10 : (Jvm.Cond.code ({ cls := "java/lang/Math", name := "min", desc := "(II)I" } : Jvm.MethodName) jdk_29_method_69_code (2 : Nat) (Option.some Jvm.ClassFile.FieldType.int)).before args0 about1 = true := code_word (m := ⟨2, 3⟩) (meth := k2m3) (c := k2c3) (by decide +kernel) rfl rfl rfl (by decide +kernel)
set_option maxRecDepth 65536 in
theorem w_c11 : (Jvm.Cond.code ({ cls := "com/example/term_proximity_ranking/termproximityranking/bm25/Occurrences", name := "addWord", desc := "([JI[II)I" } : Jvm.MethodName) prog_6_method_3_code (9 : Nat) (Option.some Jvm.ClassFile.FieldType.int)).before args0 about1 = true := code_word (m := ⟨6, 1⟩) (meth := k6m1) (c := k6c1) (by decide +kernel) rfl rfl rfl (by decide +kernel)
set_option maxRecDepth 65536 in
theorem w_c12 : (Jvm.Cond.code ({ cls := "com/example/term_proximity_ranking/termproximityranking/bm25/Occurrences", name := "of", desc := "(II)J" } : Jvm.MethodName) prog_6_method_7_code (2 : Nat) (Option.some Jvm.ClassFile.FieldType.long)).before args0 about1 = true := code_word (m := ⟨6, 5⟩) (meth := k6m5) (c := k6c5) (by decide +kernel) rfl rfl rfl (by decide +kernel)
set_option maxRecDepth 65536 in
theorem w_c13 : (Jvm.Cond.code ({ cls := "com/example/term_proximity_ranking/termproximityranking/bm25/SpanCovers", name := "find", desc := "(D)I" } : Jvm.MethodName) prog_7_method_5_code (10 : Nat) (Option.some Jvm.ClassFile.FieldType.int)).before args0 about1 = true := code_word (m := ⟨3, 4⟩) (meth := k3m4) (c := k3c4) (by decide +kernel) rfl rfl rfl (by decide +kernel)
set_option maxRecDepth 65536 in
theorem w_c14 : (Jvm.Cond.code ({ cls := "com/example/term_proximity_ranking/termproximityranking/bm25/SpanCovers", name := "widen", desc := "()V" } : Jvm.MethodName) prog_7_method_7_code (3 : Nat) (Option.none : Option Jvm.ClassFile.FieldType)).before args0 about1 = true := code_word (m := ⟨3, 6⟩) (meth := k3m6) (c := k3c6) (by decide +kernel) rfl rfl rfl (by decide +kernel)
set_option maxRecDepth 65536 in
theorem w_c15 : (Jvm.Cond.code ({ cls := "java/util/Arrays", name := "fill", desc := "([IIII)V" } : Jvm.MethodName) jdk_65_method_104_code (5 : Nat) (Option.none : Option Jvm.ClassFile.FieldType)).before args0 about1 = true := code_word (m := ⟨4, 7⟩) (meth := k4m7) (c := k4c7) (by decide +kernel) rfl rfl rfl (by decide +kernel)
set_option maxRecDepth 65536 in
theorem w_c16 : (Jvm.Cond.code ({ cls := "java/util/Arrays", name := "rangeCheck", desc := "(III)V" } : Jvm.MethodName) jdk_65_method_30_code (3 : Nat) (Option.none : Option Jvm.ClassFile.FieldType)).before args0 about1 = true := code_word (m := ⟨4, 1⟩) (meth := k4m1) (c := k4c1) (by decide +kernel) rfl rfl rfl (by decide +kernel)
set_option maxRecDepth 65536 in
theorem w_c17 : (Jvm.Cond.code ({ cls := "com/example/term_proximity_ranking/termproximityranking/bm25/SpanCovers", name := "distance", desc := "([II)I" } : Jvm.MethodName) prog_7_method_8_code (5 : Nat) (Option.some Jvm.ClassFile.FieldType.int)).before args0 about1 = true := code_word (m := ⟨3, 7⟩) (meth := k3m7) (c := k3c7) (by decide +kernel) rfl rfl rfl (by decide +kernel)
set_option maxRecDepth 65536 in
theorem w_c18 : (Jvm.Cond.code ({ cls := "java/util/Arrays", name := "binarySearch", desc := "([II)I" } : Jvm.MethodName) jdk_65_method_57_code (2 : Nat) (Option.some Jvm.ClassFile.FieldType.int)).before args0 about1 = true := code_word (m := ⟨4, 4⟩) (meth := k4m4) (c := k4c4) (by decide +kernel) rfl rfl rfl (by decide +kernel)
set_option maxRecDepth 65536 in
theorem w_c19 : (Jvm.Cond.code ({ cls := "java/util/Arrays", name := "binarySearch0", desc := "([IIII)I" } : Jvm.MethodName) jdk_65_method_59_code (8 : Nat) (Option.some Jvm.ClassFile.FieldType.int)).before args0 about1 = true := code_word (m := ⟨4, 5⟩) (meth := k4m5) (c := k4c5) (by decide +kernel) rfl rfl rfl (by decide +kernel)
set_option maxRecDepth 65536 in
theorem w_c20 : (Jvm.Cond.code ({ cls := "java/lang/Math", name := "floor", desc := "(D)D" } : Jvm.MethodName) jdk_29_method_17_code (2 : Nat) (Option.some Jvm.ClassFile.FieldType.double)).before args0 about1 = true := code_word (m := ⟨2, 1⟩) (meth := k2m1) (c := k2c1) (by decide +kernel) rfl rfl rfl (by decide +kernel)
set_option maxRecDepth 65536 in
theorem w_c21 : (Jvm.Cond.code ({ cls := "java/lang/StrictMath", name := "floor", desc := "(D)D" } : Jvm.MethodName) jdk_128_method_17_code (2 : Nat) (Option.some Jvm.ClassFile.FieldType.double)).before args0 about1 = true := code_word (m := ⟨7, 1⟩) (meth := k7m1) (c := k7c1) (by decide +kernel) rfl rfl rfl (by decide +kernel)
set_option maxRecDepth 65536 in
theorem w_c22 : (Jvm.Cond.code ({ cls := "java/lang/StrictMath", name := "floorOrCeil", desc := "(DDDD)D" } : Jvm.MethodName) jdk_128_method_18_code (15 : Nat) (Option.some Jvm.ClassFile.FieldType.double)).before args0 about1 = true := code_word (m := ⟨7, 2⟩) (meth := k7m2) (c := k7c2) (by decide +kernel) rfl rfl rfl (by decide +kernel)
set_option maxRecDepth 65536 in
theorem w_c23 : (Jvm.Cond.code ({ cls := "java/lang/Math", name := "getExponent", desc := "(D)I" } : Jvm.MethodName) jdk_29_method_92_code (2 : Nat) (Option.some Jvm.ClassFile.FieldType.int)).before args0 about1 = true := code_word (m := ⟨2, 6⟩) (meth := k2m6) (c := k2c6) (by decide +kernel) rfl rfl rfl (by decide +kernel)
set_option maxRecDepth 65536 in
theorem w_c24 : (Jvm.Cond.code ({ cls := "java/lang/Math", name := "min", desc := "(DD)D" } : Jvm.MethodName) jdk_29_method_72_code (4 : Nat) (Option.some Jvm.ClassFile.FieldType.double)).before args0 about1 = true := code_word (m := ⟨2, 5⟩) (meth := k2m5) (c := k2c5) (by decide +kernel) rfl rfl rfl (by decide +kernel)
set_option maxRecDepth 65536 in
theorem w_c25 : (Jvm.Cond.code ({ cls := "com/example/term_proximity_ranking/termproximityranking/bm25/SpanCovers", name := "restart", desc := "()V" } : Jvm.MethodName) prog_7_method_10_code (2 : Nat) (Option.none : Option Jvm.ClassFile.FieldType)).before args0 about1 = true := code_word (m := ⟨3, 9⟩) (meth := k3m9) (c := k3c9) (by decide +kernel) rfl rfl rfl (by decide +kernel)
set_option maxRecDepth 65536 in
theorem w_c26 : (Jvm.Cond.code ({ cls := "java/lang/Math", name := "min", desc := "(JJ)J" } : Jvm.MethodName) jdk_29_method_70_code (4 : Nat) (Option.some Jvm.ClassFile.FieldType.long)).before args0 about1 = true := code_word (m := ⟨2, 4⟩) (meth := k2m4) (c := k2c4) (by decide +kernel) rfl rfl rfl (by decide +kernel)
set_option maxRecDepth 65536 in
theorem w_c27 : (Jvm.Cond.code ({ cls := "com/example/term_proximity_ranking/termproximityranking/bm25/SpanCovers", name := "readRange", desc := "(IID)I" } : Jvm.MethodName) prog_7_method_9_code (8 : Nat) (Option.some Jvm.ClassFile.FieldType.int)).before args0 about1 = true := code_word (m := ⟨3, 8⟩) (meth := k3m8) (c := k3c8) (by decide +kernel) rfl rfl rfl (by decide +kernel)
set_option maxRecDepth 65536 in
theorem w_c28 : (Jvm.Cond.code ({ cls := "com/example/term_proximity_ranking/termproximityranking/bm25/Occurrences", name := "firstAt", desc := "([JII)I" } : Jvm.MethodName) prog_6_method_4_code (4 : Nat) (Option.some Jvm.ClassFile.FieldType.int)).before args0 about1 = true := code_word (m := ⟨6, 2⟩) (meth := k6m2) (c := k6c2) (by decide +kernel) rfl rfl rfl (by decide +kernel)
set_option maxRecDepth 65536 in
theorem w_c29 : (Jvm.Cond.code ({ cls := "java/util/Arrays", name := "binarySearch", desc := "([JIIJ)I" } : Jvm.MethodName) jdk_65_method_55_code (5 : Nat) (Option.some Jvm.ClassFile.FieldType.int)).before args0 about1 = true := code_word (m := ⟨4, 2⟩) (meth := k4m2) (c := k4c2) (by decide +kernel) rfl rfl rfl (by decide +kernel)
set_option maxRecDepth 65536 in
theorem w_c30 : (Jvm.Cond.code ({ cls := "java/util/Arrays", name := "binarySearch0", desc := "([JIIJ)I" } : Jvm.MethodName) jdk_65_method_56_code (10 : Nat) (Option.some Jvm.ClassFile.FieldType.int)).before args0 about1 = true := code_word (m := ⟨4, 3⟩) (meth := k4m3) (c := k4c3) (by decide +kernel) rfl rfl rfl (by decide +kernel)
set_option maxRecDepth 65536 in
theorem w_c31 : (Jvm.Cond.code ({ cls := "com/example/term_proximity_ranking/termproximityranking/bm25/Occurrences", name := "position", desc := "(J)I" } : Jvm.MethodName) prog_6_method_5_code (2 : Nat) (Option.some Jvm.ClassFile.FieldType.int)).before args0 about1 = true := code_word (m := ⟨6, 3⟩) (meth := k6m3) (c := k6c3) (by decide +kernel) rfl rfl rfl (by decide +kernel)
set_option maxRecDepth 65536 in
theorem w_c32 : (Jvm.Cond.code ({ cls := "com/example/term_proximity_ranking/termproximityranking/bm25/Occurrences", name := "word", desc := "(J)I" } : Jvm.MethodName) prog_6_method_6_code (2 : Nat) (Option.some Jvm.ClassFile.FieldType.int)).before args0 about1 = true := code_word (m := ⟨6, 4⟩) (meth := k6m4) (c := k6c4) (by decide +kernel) rfl rfl rfl (by decide +kernel)
set_option maxRecDepth 65536 in
theorem w_c33 : (Jvm.Cond.code ({ cls := "com/example/term_proximity_ranking/termproximityranking/bm25/SpanCovers", name := "read", desc := "(IID)Z" } : Jvm.MethodName) prog_7_method_11_code (6 : Nat) (Option.some Jvm.ClassFile.FieldType.boolean)).before args0 about1 = true := code_word (m := ⟨3, 10⟩) (meth := k3m10) (c := k3c10) (by decide +kernel) rfl rfl rfl (by decide +kernel)
set_option maxRecDepth 65536 in
theorem w_c34 : (Jvm.Cond.code ({ cls := "com/example/term_proximity_ranking/termproximityranking/bm25/SpanCovers", name := "length", desc := "(I)I" } : Jvm.MethodName) prog_7_method_6_code (2 : Nat) (Option.some Jvm.ClassFile.FieldType.int)).before args0 about1 = true := code_word (m := ⟨3, 5⟩) (meth := k3m5) (c := k3c5) (by decide +kernel) rfl rfl rfl (by decide +kernel)
def codes1 : List Jvm.Cond := [Jvm.Cond.code x code maxLocals ret, Jvm.Cond.code ({ cls := "com/example/term_proximity_ranking/termproximityranking/bm25/SpanCoversClearPinLaw", name := "positionsOf", desc := "(II)[I" } : Jvm.MethodName) method_2_code (5 : Nat) (Option.some (Jvm.ClassFile.FieldType.array Jvm.ClassFile.FieldType.int)), Jvm.Cond.code ({ cls := "java/lang/Math", name := "max", desc := "(II)I" } : Jvm.MethodName) jdk_29_method_65_code (2 : Nat) (Option.some Jvm.ClassFile.FieldType.int), Jvm.Cond.code ({ cls := "com/example/term_proximity_ranking/termproximityranking/bm25/SpanCovers", name := "<init>", desc := "(I)V" } : Jvm.MethodName) prog_7_method_1_code (2 : Nat) (Option.none : Option Jvm.ClassFile.FieldType), Jvm.Cond.code ({ cls := "java/lang/Object", name := "<init>", desc := "()V" } : Jvm.MethodName) object_method_1_code (1 : Nat) (Option.none : Option Jvm.ClassFile.FieldType), Jvm.Cond.code ({ cls := "java/util/Arrays", name := "fill", desc := "([II)V" } : Jvm.MethodName) jdk_65_method_103_code (4 : Nat) (Option.none : Option Jvm.ClassFile.FieldType), Jvm.Cond.code ({ cls := "com/example/term_proximity_ranking/termproximityranking/bm25/SpanCovers", name := "start", desc := "(I)V" } : Jvm.MethodName) prog_7_method_2_code (3 : Nat) (Option.none : Option Jvm.ClassFile.FieldType), Jvm.Cond.code ({ cls := "com/example/term_proximity_ranking/termproximityranking/bm25/SpanCovers", name := "clear", desc := "()V" } : Jvm.MethodName) prog_7_method_4_code (2 : Nat) (Option.none : Option Jvm.ClassFile.FieldType), Jvm.Cond.code ({ cls := "com/example/term_proximity_ranking/termproximityranking/bm25/SpanCovers", name := "add", desc := "(I[I)V" } : Jvm.MethodName) prog_7_method_3_code (5 : Nat) (Option.none : Option Jvm.ClassFile.FieldType), Jvm.Cond.code ({ cls := "java/util/Arrays", name := "copyOf", desc := "([JI)[J" } : Jvm.MethodName) jdk_65_method_124_code (3 : Nat) (Option.some (Jvm.ClassFile.FieldType.array Jvm.ClassFile.FieldType.long)), Jvm.Cond.code ({ cls := "java/lang/Math", name := "min", desc := "(II)I" } : Jvm.MethodName) jdk_29_method_69_code (2 : Nat) (Option.some Jvm.ClassFile.FieldType.int), Jvm.Cond.code ({ cls := "com/example/term_proximity_ranking/termproximityranking/bm25/Occurrences", name := "addWord", desc := "([JI[II)I" } : Jvm.MethodName) prog_6_method_3_code (9 : Nat) (Option.some Jvm.ClassFile.FieldType.int), Jvm.Cond.code ({ cls := "com/example/term_proximity_ranking/termproximityranking/bm25/Occurrences", name := "of", desc := "(II)J" } : Jvm.MethodName) prog_6_method_7_code (2 : Nat) (Option.some Jvm.ClassFile.FieldType.long), Jvm.Cond.code ({ cls := "com/example/term_proximity_ranking/termproximityranking/bm25/SpanCovers", name := "find", desc := "(D)I" } : Jvm.MethodName) prog_7_method_5_code (10 : Nat) (Option.some Jvm.ClassFile.FieldType.int), Jvm.Cond.code ({ cls := "com/example/term_proximity_ranking/termproximityranking/bm25/SpanCovers", name := "widen", desc := "()V" } : Jvm.MethodName) prog_7_method_7_code (3 : Nat) (Option.none : Option Jvm.ClassFile.FieldType), Jvm.Cond.code ({ cls := "java/util/Arrays", name := "fill", desc := "([IIII)V" } : Jvm.MethodName) jdk_65_method_104_code (5 : Nat) (Option.none : Option Jvm.ClassFile.FieldType), Jvm.Cond.code ({ cls := "java/util/Arrays", name := "rangeCheck", desc := "(III)V" } : Jvm.MethodName) jdk_65_method_30_code (3 : Nat) (Option.none : Option Jvm.ClassFile.FieldType), Jvm.Cond.code ({ cls := "com/example/term_proximity_ranking/termproximityranking/bm25/SpanCovers", name := "distance", desc := "([II)I" } : Jvm.MethodName) prog_7_method_8_code (5 : Nat) (Option.some Jvm.ClassFile.FieldType.int), Jvm.Cond.code ({ cls := "java/util/Arrays", name := "binarySearch", desc := "([II)I" } : Jvm.MethodName) jdk_65_method_57_code (2 : Nat) (Option.some Jvm.ClassFile.FieldType.int), Jvm.Cond.code ({ cls := "java/util/Arrays", name := "binarySearch0", desc := "([IIII)I" } : Jvm.MethodName) jdk_65_method_59_code (8 : Nat) (Option.some Jvm.ClassFile.FieldType.int), Jvm.Cond.code ({ cls := "java/lang/Math", name := "floor", desc := "(D)D" } : Jvm.MethodName) jdk_29_method_17_code (2 : Nat) (Option.some Jvm.ClassFile.FieldType.double), Jvm.Cond.code ({ cls := "java/lang/StrictMath", name := "floor", desc := "(D)D" } : Jvm.MethodName) jdk_128_method_17_code (2 : Nat) (Option.some Jvm.ClassFile.FieldType.double), Jvm.Cond.code ({ cls := "java/lang/StrictMath", name := "floorOrCeil", desc := "(DDDD)D" } : Jvm.MethodName) jdk_128_method_18_code (15 : Nat) (Option.some Jvm.ClassFile.FieldType.double), Jvm.Cond.code ({ cls := "java/lang/Math", name := "getExponent", desc := "(D)I" } : Jvm.MethodName) jdk_29_method_92_code (2 : Nat) (Option.some Jvm.ClassFile.FieldType.int), Jvm.Cond.code ({ cls := "java/lang/Math", name := "min", desc := "(DD)D" } : Jvm.MethodName) jdk_29_method_72_code (4 : Nat) (Option.some Jvm.ClassFile.FieldType.double), Jvm.Cond.code ({ cls := "com/example/term_proximity_ranking/termproximityranking/bm25/SpanCovers", name := "restart", desc := "()V" } : Jvm.MethodName) prog_7_method_10_code (2 : Nat) (Option.none : Option Jvm.ClassFile.FieldType), Jvm.Cond.code ({ cls := "java/lang/Math", name := "min", desc := "(JJ)J" } : Jvm.MethodName) jdk_29_method_70_code (4 : Nat) (Option.some Jvm.ClassFile.FieldType.long), Jvm.Cond.code ({ cls := "com/example/term_proximity_ranking/termproximityranking/bm25/SpanCovers", name := "readRange", desc := "(IID)I" } : Jvm.MethodName) prog_7_method_9_code (8 : Nat) (Option.some Jvm.ClassFile.FieldType.int), Jvm.Cond.code ({ cls := "com/example/term_proximity_ranking/termproximityranking/bm25/Occurrences", name := "firstAt", desc := "([JII)I" } : Jvm.MethodName) prog_6_method_4_code (4 : Nat) (Option.some Jvm.ClassFile.FieldType.int), Jvm.Cond.code ({ cls := "java/util/Arrays", name := "binarySearch", desc := "([JIIJ)I" } : Jvm.MethodName) jdk_65_method_55_code (5 : Nat) (Option.some Jvm.ClassFile.FieldType.int), Jvm.Cond.code ({ cls := "java/util/Arrays", name := "binarySearch0", desc := "([JIIJ)I" } : Jvm.MethodName) jdk_65_method_56_code (10 : Nat) (Option.some Jvm.ClassFile.FieldType.int), Jvm.Cond.code ({ cls := "com/example/term_proximity_ranking/termproximityranking/bm25/Occurrences", name := "position", desc := "(J)I" } : Jvm.MethodName) prog_6_method_5_code (2 : Nat) (Option.some Jvm.ClassFile.FieldType.int), Jvm.Cond.code ({ cls := "com/example/term_proximity_ranking/termproximityranking/bm25/Occurrences", name := "word", desc := "(J)I" } : Jvm.MethodName) prog_6_method_6_code (2 : Nat) (Option.some Jvm.ClassFile.FieldType.int), Jvm.Cond.code ({ cls := "com/example/term_proximity_ranking/termproximityranking/bm25/SpanCovers", name := "read", desc := "(IID)Z" } : Jvm.MethodName) prog_7_method_11_code (6 : Nat) (Option.some Jvm.ClassFile.FieldType.boolean), Jvm.Cond.code ({ cls := "com/example/term_proximity_ranking/termproximityranking/bm25/SpanCovers", name := "length", desc := "(I)I" } : Jvm.MethodName) prog_7_method_6_code (2 : Nat) (Option.some Jvm.ClassFile.FieldType.int)]
set_option maxRecDepth 65536 in
theorem codes_eq : words1.filter isCode = codes1 := rfl
theorem w_codes : ∀ c ∈ words1.filter isCode, c.before args0 about1 = true := by
  rw [codes_eq]
  intro c hc
  simp only [codes1, List.mem_cons, List.not_mem_nil, or_false] at hc
  rcases hc with rfl | rfl | rfl | rfl | rfl | rfl | rfl | rfl | rfl | rfl | rfl | rfl | rfl | rfl | rfl | rfl | rfl | rfl | rfl | rfl | rfl | rfl | rfl | rfl | rfl | rfl | rfl | rfl | rfl | rfl | rfl | rfl | rfl | rfl | rfl
  · exact w_c0
  · exact w_c1
  · exact w_c2
  · exact w_c3
  · exact w_c4
  · exact w_c5
  · exact w_c6
  · exact w_c7
  · exact w_c8
  · exact w_c9
  · exact w_c10
  · exact w_c11
  · exact w_c12
  · exact w_c13
  · exact w_c14
  · exact w_c15
  · exact w_c16
  · exact w_c17
  · exact w_c18
  · exact w_c19
  · exact w_c20
  · exact w_c21
  · exact w_c22
  · exact w_c23
  · exact w_c24
  · exact w_c25
  · exact w_c26
  · exact w_c27
  · exact w_c28
  · exact w_c29
  · exact w_c30
  · exact w_c31
  · exact w_c32
  · exact w_c33
  · exact w_c34
set_option maxRecDepth 65536 in
theorem w_t1 : (words1.take 24).all (fun c => isCode c || c.before args0 about1) = true := by decide +kernel
set_option maxRecDepth 65536 in
theorem w_t2 : ((words1.drop 24).take 24).all (fun c => isCode c || c.before args0 about1) = true := by decide +kernel
set_option maxRecDepth 65536 in
theorem w_t3 : (((words1.drop 24).drop 24).take 24).all (fun c => isCode c || c.before args0 about1) = true := by decide +kernel
set_option maxRecDepth 65536 in
theorem w_t4 : ((((words1.drop 24).drop 24).drop 24).take 24).all (fun c => isCode c || c.before args0 about1) = true := by decide +kernel
set_option maxRecDepth 65536 in
theorem w_t5 : (((((words1.drop 24).drop 24).drop 24).drop 24).take 24).all (fun c => isCode c || c.before args0 about1) = true := by decide +kernel
set_option maxRecDepth 65536 in
theorem w_t6 : ((((((words1.drop 24).drop 24).drop 24).drop 24).drop 24).take 24).all (fun c => isCode c || c.before args0 about1) = true := by decide +kernel
set_option maxRecDepth 65536 in
theorem w_t7 : (((((((words1.drop 24).drop 24).drop 24).drop 24).drop 24).drop 24).take 24).all (fun c => isCode c || c.before args0 about1) = true := by decide +kernel
set_option maxRecDepth 65536 in
theorem w_t8 : (((((((words1.drop 24).drop 24).drop 24).drop 24).drop 24).drop 24).drop 24).all (fun c => isCode c || c.before args0 about1) = true := by decide +kernel
theorem w_tables : (allAtoms (Jvm.Cond.code x code maxLocals ret :: tables_1)).before args0 about1 = true := by
  rw [allAtoms_all]
  show words1.all (fun c => c.before args0 about1) = true
  refine all_split ?_ w_codes
  rw [← List.take_append_drop 24 words1, List.all_append, w_t1, ← List.take_append_drop 24 (words1.drop 24), List.all_append, w_t2, ← List.take_append_drop 24 ((words1.drop 24).drop 24), List.all_append, w_t3, ← List.take_append_drop 24 (((words1.drop 24).drop 24).drop 24), List.all_append, w_t4, ← List.take_append_drop 24 ((((words1.drop 24).drop 24).drop 24).drop 24), List.all_append, w_t5, ← List.take_append_drop 24 (((((words1.drop 24).drop 24).drop 24).drop 24).drop 24), List.all_append, w_t6, ← List.take_append_drop 24 ((((((words1.drop 24).drop 24).drop 24).drop 24).drop 24).drop 24), List.all_append, w_t7, w_t8]
  rfl
set_option maxRecDepth 65536 in
theorem w_rest : rest_1_c.before args0 about1 = true := by decide +kernel
set_option maxRecDepth 65536 in
theorem w_case : (Jvm.Cond.and given_1 narrow_1).before args0 about1 = true := by decide +kernel
theorem w_applies : (headSpec (Jvm.Cond.code x code maxLocals ret :: tables_1) room_1).applies x e0.platform about1 = true :=
  (Spec.applies_iff w_frames).mpr ⟨w_running, w_runnable, w_alone, w_named, w_hears, w_ripe, w_room, w_tables⟩
theorem atStart : AtStart classFile x code maxLocals ret World_1 tables_1 room_1 Calls_1 rest_1 Pre_1 launch0 p0 e0 about1 theMethod args0 below0 :=
  ⟨lists_1, trivial, launch0.admits_env _ _ _, launch0.least_env, fairChoices_fair.cas, fairChoices_fair.clock, w_frames, w_args, w_heap, w_applies, trivial, w_rest, w_case⟩
end start1
theorem witness_1 : WitnessClaimed_1 := ⟨start1.p0, start1.e0, start1.about1, start1.theMethod, start1.args0, start1.below0, start1.atStart⟩
end Jvm.Pilot.@@N@@
