import JvmDerived
import JvmDerived.Pilot.@@N@@Statement
import JvmDerived.Pilot.@@N@@Code
set_option linter.unusedVariables false
set_option linter.unusedSimpArgs false

namespace Jvm.Own
open Jvm Jvm.ClassFile Sem Op Lib Jvm.Free Jvm.Stand Jvm.LawKit Jvm.RoadKit
/-! the heap as a law knows it: its own objects (address, class, fields) and arrays (address, kind, values) -/
abbrev OFld := String × String × String × Value
abbrev OObj := Addr × String × List OFld
abbrev OArr := Addr × FieldType × List Value
abbrev HD := List OObj × List OArr
def FldOk (Z : State) (a0 : Array Value) (h : Heap) (a : Addr) (C : String) (x : OFld) : Prop := Fld Z h a x.1 x.2.1 x.2.2.1 x.2.2.2 ∧ Laid Z a0 C x.1 x.2.1 x.2.2.1 ∧ ∃ t, parseFieldDescriptor x.2.2.1 = some t
def ObjOk (Z : State) (a0 : Array Value) (n0 : Nat) (h : Heap) (o : OObj) : Prop := n0 ≤ o.1 ∧ Exa Z h o.1 o.2.1 ∧ (∀ x ∈ o.2.2, FldOk Z a0 h o.1 o.2.1 x) ∧ (o.2.2.map fun x => x.2.1).Nodup
def ArrOk (Z : State) (n0 : Nat) (h : Heap) (r : OArr) : Prop := n0 ≤ r.1 ∧ ∃ c : Cell, Arr Z h r.1 c r.2.1 ∧ c.slots = r.2.2.toArray ∧ r.2.2.length < 2 ^ 31 ∧ ∀ v ∈ r.2.2, fits r.2.1 v = true
def adrs (D : HD) : List Addr := D.1.map (fun o => o.1) ++ D.2.map (fun r => r.1)
def Heaped (Z : State) (a0 : Array Value) (n0 : Nat) (h : Heap) (D : HD) : Prop := Old Z n0 h ∧ (∀ o ∈ D.1, ObjOk Z a0 n0 h o) ∧ (∀ r ∈ D.2, ArrOk Z n0 h r) ∧ (adrs D).Nodup
section HeapFacts
variable {Z : State} {a0 : Array Value} {n0 : Nat} {h h' : Heap} {D : HD}
theorem FldOk.ext {a : Addr} {C : String} {x : OFld} (F : FldOk Z a0 h a C x) (E : Ext h h') : FldOk Z a0 h' a C x := ⟨F.1.ext E, F.2⟩
theorem ObjOk.ext {o : OObj} (F : ObjOk Z a0 n0 h o) (E : Ext h h') : ObjOk Z a0 n0 h' o := ⟨F.1, F.2.1.ext E, fun x hx => (F.2.2.1 x hx).ext E, F.2.2.2⟩
theorem ArrOk.ext {r : OArr} (F : ArrOk Z n0 h r) (E : Ext h h') : ArrOk Z n0 h' r := by
  obtain ⟨g, c, A, q⟩ := F
  exact ⟨g, c, A.ext E, q⟩
theorem ObjOk.lt {o : OObj} (F : ObjOk Z a0 n0 h o) : o.1 < h.size := F.2.1.lt
theorem ArrOk.lt {r : OArr} (F : ArrOk Z n0 h r) : r.1 < h.size := by
  obtain ⟨g, c, A, q⟩ := F
  exact A.lt
theorem Heaped.lt (H : Heaped Z a0 n0 h D) : ∀ a ∈ adrs D, a < h.size := by
  intro a ha
  rcases List.mem_append.mp ha with q | q
  · obtain ⟨o, ho, rfl⟩ := List.mem_map.mp q
    exact (H.2.1 o ho).lt
  · obtain ⟨o, ho, rfl⟩ := List.mem_map.mp q
    exact (H.2.2.1 o ho).lt
theorem Heaped.fresh (H : Heaped Z a0 n0 h D) : h.size ∉ adrs D := fun q => Nat.lt_irrefl _ (H.lt _ q)
theorem Heaped.base (H : Heaped Z a0 n0 h D) : n0 ≤ h.size := by
  have := H.1.1
  have := H.1.2.1
  omega
theorem ObjOk.other {o : OObj} {a : Addr} {sl : Nat} {v : Value} (F : ObjOk Z a0 n0 h o) (W : Wr h h' a sl v) (q : o.1 ≠ a) : ObjOk Z a0 n0 h' o := ⟨F.1, F.2.1.wr W, fun x hx => ⟨(F.2.2.1 x hx).1.other W (Or.inl q), (F.2.2.1 x hx).2⟩, F.2.2.2⟩
theorem ArrOk.other {r : OArr} {a : Addr} {sl : Nat} {v : Value} (F : ArrOk Z n0 h r) (W : Wr h h' a sl v) (q : r.1 ≠ a) : ArrOk Z n0 h' r := by
  obtain ⟨g, c, A, z⟩ := F
  exact ⟨g, c, A.other W q, z⟩
theorem nodup_of {β γ : Type} {L : List β} {f : β → γ} (N : (L.map f).Nodup) {i j : Nat} {x z : β} (hi : L[i]? = some x) (hj : L[j]? = some z) (e : f x = f z) : i = j := by
  have P := List.pairwise_iff_getElem.mp N
  obtain ⟨li, ei⟩ := List.getElem?_eq_some_iff.mp hi
  obtain ⟨lj, ej⟩ := List.getElem?_eq_some_iff.mp hj
  rcases Nat.lt_trichotomy i j with q | q | q
  · exact absurd (by rw [List.getElem_map, List.getElem_map, ei, ej]; exact e) (P i j (by simpa using li) (by simpa using lj) q)
  · exact q
  · exact absurd (by rw [List.getElem_map, List.getElem_map, ei, ej]; exact e.symm) (P j i (by simpa using lj) (by simpa using li) q)
theorem map_set_same {β γ : Type} (L : List β) (f : β → γ) {i : Nat} {x z : β} (hi : L[i]? = some x) (e : f z = f x) : (L.set i z).map f = L.map f := by
  rw [List.map_set, e]
  obtain ⟨li, rfl⟩ := List.getElem?_eq_some_iff.mp hi
  apply List.ext_getElem?
  intro j
  by_cases q : i = j
  · subst q; simp [li]
  · simp [List.getElem?_set, q]
theorem mem_set_cases {β : Type} {L : List β} {i : Nat} {z w : β} (hw : w ∈ L.set i z) : w = z ∨ ∃ j, j ≠ i ∧ L[j]? = some w := by
  obtain ⟨j, hj⟩ := List.mem_iff_getElem?.mp hw
  rw [List.getElem?_set] at hj
  by_cases q : i = j
  · subst q
    by_cases lt : i < L.length
    · simp [lt] at hj; exact Or.inl hj.symm
    · simp [lt] at hj
  · rw [if_neg q] at hj
    exact Or.inr ⟨j, fun e => q e.symm, hj⟩
theorem Heaped.put {i j : Nat} {a : Addr} {C O n d : String} {fs : List OFld} {v w : Value} (H : Heaped Z a0 n0 h D) (hi : D.1[i]? = some (a, C, fs)) (hj : fs[j]? = some (O, n, d, w)) (W : Wr h h' a (RoadKit.slotOf Z O n d) v) :
    Heaped Z a0 n0 h' (D.1.set i (a, C, fs.set j (O, n, d, v)), D.2) := by
  have HO := H.2.1 _ (List.mem_of_getElem? hi)
  have ND := H.2.2.2
  refine ⟨H.1.wr W HO.1, fun o ho => ?_, fun r hr => ?_, ?_⟩
  · rcases mem_set_cases ho with rfl | ⟨k, hk, ek⟩
    · refine ⟨HO.1, HO.2.1.wr W, fun x hx => ?_, ?_⟩
      · rcases mem_set_cases hx with rfl | ⟨q, hq, eq⟩
        · have F := HO.2.2.1 _ (List.mem_of_getElem? hj)
          exact ⟨F.1.same W, F.2⟩
        · have F := HO.2.2.1 _ (List.mem_of_getElem? eq)
          have G := HO.2.2.1 _ (List.mem_of_getElem? hj)
          refine ⟨F.1.other W (Or.inr ?_), F.2⟩
          obtain ⟨t1, e1⟩ := F.2.2
          obtain ⟨t2, e2⟩ := G.2.2
          exact slot_ne F.2.1 G.2.1 (fun e => hq (nodup_of HO.2.2.2 eq hj e)) e1 e2
      · show ((fs.set j (O, n, d, v)).map fun x => x.2.1).Nodup
        rw [map_set_same fs (fun x => x.2.1) (z := (O, n, d, v)) hj rfl]; exact HO.2.2.2
    · refine (H.2.1 o (List.mem_of_getElem? ek)).other W fun e => hk ?_
      exact nodup_of (List.nodup_append.mp ND).1 ek hi e
  · refine (H.2.2.1 r hr).other W fun e => ?_
    exact (List.nodup_append.mp ND).2.2 a (List.mem_map.mpr ⟨_, List.mem_of_getElem? hi, rfl⟩) r.1 (List.mem_map.mpr ⟨_, hr, rfl⟩) e.symm
  · show (adrs (D.1.set i (a, C, fs.set j (O, n, d, v)), D.2)).Nodup
    have q : adrs (D.1.set i (a, C, fs.set j (O, n, d, v)), D.2) = adrs D := congrArg (fun q => q ++ D.2.map (fun r => r.1)) (map_set_same D.1 (fun o => o.1) (z := (a, C, fs.set j (O, n, d, v))) hi rfl)
    rw [q]; exact ND
theorem Heaped.store {i k : Nat} {a : Addr} {ty : FieldType} {vs : List Value} {v : Value} (H : Heaped Z a0 n0 h D) (hi : D.2[i]? = some (a, ty, vs)) (hv : fits ty v = true) (W : Wr h h' a k v) :
    Heaped Z a0 n0 h' (D.1, D.2.set i (a, ty, vs.set k v)) := by
  have HA := H.2.2.1 _ (List.mem_of_getElem? hi)
  have ND := H.2.2.2
  refine ⟨H.1.wr W HA.1, fun o ho => ?_, fun r hr => ?_, ?_⟩
  · refine (H.2.1 o ho).other W fun e => ?_
    exact (List.nodup_append.mp ND).2.2 o.1 (List.mem_map.mpr ⟨_, ho, rfl⟩) a (List.mem_map.mpr ⟨_, List.mem_of_getElem? hi, rfl⟩) e
  · rcases mem_set_cases hr with rfl | ⟨q, hq, eq⟩
    · obtain ⟨g, c, A, e1, e2, e3⟩ := HA
      refine ⟨g, _, A.same W, ?_, ?_, fun w hw => ?_⟩
      · show c.slots.setIfInBounds k v = _
        rw [e1]; simp
      · show (vs.set k v).length < _
        rw [List.length_set]; exact e2
      · rcases List.mem_or_eq_of_mem_set hw with q | q
        · exact e3 w q
        · rw [q]; exact hv
    · refine (H.2.2.1 r (List.mem_of_getElem? eq)).other W fun e => hq ?_
      exact nodup_of (List.nodup_append.mp ND).2.1 eq hi e
  · show (adrs (D.1, D.2.set i (a, ty, vs.set k v))).Nodup
    have q : adrs (D.1, D.2.set i (a, ty, vs.set k v)) = adrs D := congrArg (fun q => D.1.map (fun r => r.1) ++ q) (map_set_same D.2 (fun o => o.1) (z := (a, ty, vs.set k v)) hi rfl)
    rw [q]; exact ND
theorem Old.ext' {n0 : Nat} (X : Old Z n0 h) (E : Ext h h') : Old Z n0 h' := X.ext E
def FieldsOk (Z : State) (a0 : Array Value) (C : String) (fs : List OFld) : Prop := (∀ x ∈ fs, Laid Z a0 C x.1 x.2.1 x.2.2.1 ∧ ∃ ty, parseFieldDescriptor x.2.2.1 = some ty ∧ x.2.2.2 = defaultValue ty) ∧ (fs.map fun x => x.2.1).Nodup
theorem FieldsOk.nil (C : String) : FieldsOk Z a0 C [] := ⟨fun _ h => (nomatch h), List.nodup_nil⟩
theorem FieldsOk.cons {C O n d : String} {v : Value} {fs : List OFld} {ty : FieldType} (L : Laid Z a0 C O n d) (hty : parseFieldDescriptor d = some ty) (hv : v = defaultValue ty) (hn : n ∉ fs.map fun x => x.2.1) (F : FieldsOk Z a0 C fs) : FieldsOk Z a0 C ((O, n, d, v) :: fs) := by
  refine ⟨fun x hx => ?_, ?_⟩
  · rcases List.mem_cons.mp hx with rfl | hx
    · exact ⟨L, ty, hty, hv⟩
    · exact F.1 x hx
  · rw [List.map_cons]; exact List.nodup_cons.mpr ⟨hn, F.2⟩
theorem Heaped.new {C : String} {fs : List OFld} (H : Heaped Z a0 n0 h D) (E : Ext h h') (A : Exa Z h' h.size C) (F : FieldsOk Z a0 C fs)
    (Dv : ∀ {O nm d : String} {ty : FieldType}, Laid Z a0 C O nm d → parseFieldDescriptor d = some ty → Fld Z h' h.size O nm d (defaultValue ty)) : Heaped Z a0 n0 h' ((h.size, C, fs) :: D.1, D.2) := by
  refine ⟨H.1.ext E, fun o ho => ?_, fun r hr => (H.2.2.1 r hr).ext E, ?_⟩
  · rcases List.mem_cons.mp ho with rfl | ho
    · refine ⟨H.base, A, fun x hx => ?_, F.2⟩
      obtain ⟨L, ty, h1, h2⟩ := F.1 x hx
      exact ⟨by rw [h2]; exact Dv L h1, L, ty, h1⟩
    · exact (H.2.1 o ho).ext E
  · exact List.nodup_cons.mpr ⟨H.fresh, H.2.2.2⟩
theorem Heaped.newArr {ty : FieldType} {c : Cell} {vs : List Value} (H : Heaped Z a0 n0 h D) (E : Ext h h') (A : Arr Z h' h.size c ty) (e1 : c.slots = vs.toArray) (e2 : vs.length < 2 ^ 31) (e3 : ∀ v ∈ vs, fits ty v = true) : Heaped Z a0 n0 h' (D.1, (h.size, ty, vs) :: D.2) := by
  refine ⟨H.1.ext E, fun o ho => (H.2.1 o ho).ext E, fun r hr => ?_, ?_⟩
  · rcases List.mem_cons.mp hr with rfl | hr
    · exact ⟨H.base, c, A, e1, e2, e3⟩
    · exact (H.2.2.1 r hr).ext E
  · have q : (adrs (D.1, (h.size, ty, vs) :: D.2)).Perm (h.size :: adrs D) := by
      unfold adrs; simp only [List.map_cons]; exact List.perm_middle
    exact q.nodup_iff.mpr (List.nodup_cons.mpr ⟨H.fresh, H.2.2.2⟩)
theorem Heaped.perm {D' : HD} (H : Heaped Z a0 n0 h D) (q1 : D'.1.Perm D.1) (q2 : D'.2.Perm D.2) : Heaped Z a0 n0 h D' := by
  refine ⟨H.1, fun o ho => H.2.1 o (q1.mem_iff.mp ho), fun o ho => H.2.2.1 o (q2.mem_iff.mp ho), ?_⟩
  exact ((q1.map _).append (q2.map _)).nodup_iff.mpr H.2.2.2
def bringL {β : Type} (i : Nat) (L : List β) : List β := match L[i]? with
  | some x => x :: (L.take i ++ L.drop (i + 1))
  | none => L
theorem bringL_perm {β : Type} (i : Nat) (L : List β) : (bringL i L).Perm L := by
  unfold bringL
  split
  · rename_i x hx
    obtain ⟨li, rfl⟩ := List.getElem?_eq_some_iff.mp hx
    have q : L = L.take i ++ L[i] :: L.drop (i + 1) := by rw [← List.drop_eq_getElem_cons li, List.take_append_drop]
    have p := (List.perm_middle (a := L[i]) (l₁ := L.take i) (l₂ := L.drop (i + 1))).symm
    rw [← q] at p
    exact p
  · exact List.Perm.refl _
end HeapFacts
/-! a contract, and a run from a point of a body to its end -/
def Con (l : Launch) (Z : State) (a0 : Array Value) (n0 : Nat) (ws : List Jvm.Cond) (y : MethodName) (bytes : ByteArray) (maxL : Nat) (ret : Option FieldType) (rm : Room) (as' : Array Value) (D : HD) (Ψ : Option Value → HD → Prop) : Prop :=
  ∀ h, Heaped Z a0 n0 h D → MetFree l y (head1 (Jvm.Cond.code y bytes maxL ret :: ws) rm) (fun a U => a = as' ∧ Z.Warmed39 U.vm ∧ U.heap = h) (fun _ _ _ _ _ => True) (fun _ U o U' => ∃ v L, o = .returned v ∧ (Fr n0 L ∧ ∃ D', Ψ v D' ∧ Heaped Z a0 n0 U'.heap D') ∧ FrameEnd U o U' L rm.cells rm.slots)
def Run (Z : State) (a0 : Array Value) (n0 : Nat) (p : Program) (l : Launch) (e : Env) (R : Room) (s : State) (m : MethodId) (args : Array Value) (below : List Frame) (meth : Method) (c : Code) (Ψ : Option Value → HD → Prop) (D : HD) (cells slots pc : Nat) (L : Array Slot) (S : List Value) : Prop :=
  ∀ (T : State) (locs : List Loc), Stand p l e R s m args below meth c T locs cells slots → Fr n0 locs → Heaped Z a0 n0 T.heap D →
    ∃ t o, Steps p.tables e below (T.setTop (mkF m pc L S)) t ∧ t.status = .running ∧ Ended t below o ∧ ∃ v L', o = .returned v ∧ (Fr n0 L' ∧ ∃ D', Ψ v D' ∧ Heaped Z a0 n0 t.heap D') ∧ FrameEnd s o t L' R.cells R.slots
def Ctx (Z : State) (y : MethodName) (bytes : ByteArray) (maxL : Nat) (ret : Option FieldType) (p : Program) (s : State) (m : MethodId) (meth : Method) (c : Code) : Prop :=
  p.tables.exec = Jvm.exec ∧ Z.Warmed39 s.vm ∧ c.code = bytes ∧ c.maxLocals = maxL ∧ s.vm.findClass y.cls = some m.cls ∧ meth.name = y.name ∧ meth.sig.returnType = ret ∧ meth.locks = false
def Ret (v : Option Value) (D : HD) (w : Option Value) (E : HD) : Prop := w = v ∧ E = D
theorem Con.of_run {l : Launch} {Z : State} {a0 : Array Value} {n0 : Nat} {ws : List Jvm.Cond} {y : MethodName} {bytes : ByteArray} {maxL : Nat} {ret : Option FieldType} {rm : Room} {as' : Array Value} {D : HD} {Ψ : Option Value → HD → Prop} (hp : plainFor y = true) {L0 : Array Slot} (hL : ∀ m, entryFrame m as' maxL = mkF m 0 L0 [])
    (B : ∀ p e s m below meth c, Ctx Z y bytes maxL ret p s m meth c → Run Z a0 n0 p l e rm s m as' below meth c Ψ D 0 0 0 L0 []) : Con l Z a0 n0 ws y bytes maxL ret rm as' D Ψ := by
  intro h H
  refine MetFree.of_bodySF hp hisR ?_
  intro p e s m args below meth c s₁ Bd hml0 hP hK
  obtain ⟨rfl, hZ, hh⟩ := hP
  have e0 : s₁.heap = h := by rw [← hh, Bd.state]; rfl
  have X0 : Stand p l e rm s m args below meth c s₁ [] 0 0 := Stand.of_body Bd
  obtain ⟨t, o, st, r⟩ := B p e s m below meth c ⟨Bd.exec, hZ, Bd.bytes, hml0, findClass_of_methodNamed Bd.named, (name_of_methodNamed Bd.named Bd.method).1, Bd.returns, Bd.notSynchronized⟩ s₁ [] X0 (Fr.nil n0) (by rw [e0]; exact H)
  exact ⟨t, o, castTop (hL m) st, r⟩
def rel (cd : ClassFile.Cond) (x y : Int32) : Prop := match cd with
  | .eq => x = y
  | .ne => x ≠ y
  | .lt => x < y
  | .ge => y ≤ x
  | .gt => y < x
  | .le => x ≤ y
def relL (cd : ClassFile.Cond) (x y : Int64) : Prop := match cd with
  | .eq => x = y
  | .ne => x ≠ y
  | .lt => x < y
  | .ge => y ≤ x
  | .gt => y < x
  | .le => x ≤ y
theorem rel_iff (cd : ClassFile.Cond) (x y : Int32) : if_icmp.holds cd x y = true ↔ rel cd x y := by
  cases cd
  · show _ ↔ x = y
    by_cases q : x = y
    · rw [(teq q).1]; exact ⟨fun _ => q, fun _ => rfl⟩
    · rw [(feq q).1]; exact ⟨fun h => (Bool.noConfusion h), fun h => absurd h q⟩
  · show _ ↔ x ≠ y
    by_cases q : x = y
    · rw [(teq q).2]; exact ⟨fun h => (Bool.noConfusion h), fun h => absurd q h⟩
    · rw [(feq q).2]; exact ⟨fun _ => q, fun _ => rfl⟩
  · show _ ↔ x < y
    by_cases q : x < y
    · rw [(tlt q).1]; exact ⟨fun _ => q, fun _ => rfl⟩
    · rw [(flt q).1]; exact ⟨fun h => (Bool.noConfusion h), fun h => absurd h q⟩
  · show _ ↔ y ≤ x
    by_cases q : x < y
    · rw [(tlt q).2.1]; exact ⟨fun h => (Bool.noConfusion h), fun h => absurd q (Int32.not_lt.mpr h)⟩
    · rw [(flt q).2.1]; exact ⟨fun _ => Int32.not_lt.mp q, fun _ => rfl⟩
  · show _ ↔ y < x
    by_cases q : y < x
    · rw [(tlt q).2.2.1]; exact ⟨fun _ => q, fun _ => rfl⟩
    · rw [(flt q).2.2.1]; exact ⟨fun h => (Bool.noConfusion h), fun h => absurd h q⟩
  · show _ ↔ x ≤ y
    by_cases q : y < x
    · rw [(tlt q).2.2.2]; exact ⟨fun h => (Bool.noConfusion h), fun h => absurd q (Int32.not_lt.mpr h)⟩
    · rw [(flt q).2.2.2]; exact ⟨fun _ => Int32.not_lt.mp q, fun _ => rfl⟩
theorem relL_iff (cd : ClassFile.Cond) (x y : Int64) : if_icmp.holds cd (lcmpW x y) 0 = true ↔ relL cd x y := by
  rw [rel_iff, lcW]
  cases cd
  · exact lc_eq x y
  · exact not_congr (lc_eq x y)
  · exact lc_lt x y
  · exact lc_ge x y
  · exact lc_gt x y
  · exact lc_le x y
section Runs
variable {Z : State} {a0 : Array Value} {n0 : Nat} {p : Program} {l : Launch} {e : Env} {R : Room} {s : State} {m : MethodId} {args : Array Value} {below : List Frame} {meth : Method} {c : Code} {Ψ : Option Value → HD → Prop} {D : HD} {cells slots pc : Nat} {L : Array Slot} {S : List Value} {y : MethodName} {bytes : ByteArray} {maxL : Nat} {ret : Option FieldType}

theorem Run.iconst (K : Ctx Z y bytes maxL ret p s m meth c) {i : Int} {v : Int32} {pc' : Nat} (hd : decode bytes pc = .ok (.iconst i, 1)) (hp : pc + 1 = pc') (hv : Int32.ofInt i = v) (k : Run Z a0 n0 p l e R s m args below meth c Ψ D cells slots pc' L (.int v :: S)) : Run Z a0 n0 p l e R s m args below meth c Ψ D cells slots pc L S := by
  subst hp hv
  intro T locs X N H
  obtain ⟨t, o, st, r⟩ := k T locs X N H
  exact ⟨t, o, XS.iconst X.here K.1 rfl (hb K.2.2.1 hd) st, r⟩
theorem Run.bipush (K : Ctx Z y bytes maxL ret p s m meth c) {i : Int} {v : Int32} {pc' : Nat} (hd : decode bytes pc = .ok (.bipush i, 2)) (hp : pc + 2 = pc') (hv : (Int8.ofInt i).toInt32 = v) (k : Run Z a0 n0 p l e R s m args below meth c Ψ D cells slots pc' L (.int v :: S)) : Run Z a0 n0 p l e R s m args below meth c Ψ D cells slots pc L S := by
  subst hp hv
  intro T locs X N H
  obtain ⟨t, o, st, r⟩ := k T locs X N H
  exact ⟨t, o, XS.bipush X.here K.1 rfl (hb K.2.2.1 hd) st, r⟩
theorem Run.sipush (K : Ctx Z y bytes maxL ret p s m meth c) {i : Int} {v : Int32} {pc' : Nat} (hd : decode bytes pc = .ok (.sipush i, 3)) (hp : pc + 3 = pc') (hv : (Int16.ofInt i).toInt32 = v) (k : Run Z a0 n0 p l e R s m args below meth c Ψ D cells slots pc' L (.int v :: S)) : Run Z a0 n0 p l e R s m args below meth c Ψ D cells slots pc L S := by
  subst hp hv
  intro T locs X N H
  obtain ⟨t, o, st, r⟩ := k T locs X N H
  exact ⟨t, o, XS.sipush X.here K.1 rfl (hb K.2.2.1 hd) st, r⟩
theorem Run.lconst (K : Ctx Z y bytes maxL ret p s m meth c) {i : Fin 2} {v : Int64} {pc' : Nat} (hd : decode bytes pc = .ok (.lconst i, 1)) (hp : pc + 1 = pc') (hv : Int64.ofNat i = v) (k : Run Z a0 n0 p l e R s m args below meth c Ψ D cells slots pc' L (.long v :: S)) : Run Z a0 n0 p l e R s m args below meth c Ψ D cells slots pc L S := by
  subst hp hv
  intro T locs X N H
  obtain ⟨t, o, st, r⟩ := k T locs X N H
  exact ⟨t, o, XS.lconst X.here K.1 rfl (hb K.2.2.1 hd) st, r⟩
theorem Run.aconstNull (K : Ctx Z y bytes maxL ret p s m meth c) {pc' : Nat} (hd : decode bytes pc = .ok (.aconst_null, 1)) (hp : pc + 1 = pc') (k : Run Z a0 n0 p l e R s m args below meth c Ψ D cells slots pc' L (.null :: S)) : Run Z a0 n0 p l e R s m args below meth c Ψ D cells slots pc L S := by
  subst hp
  intro T locs X N H
  obtain ⟨t, o, st, r⟩ := k T locs X N H
  exact ⟨t, o, XS.aconstNull X.here K.1 rfl (hb K.2.2.1 hd) st, r⟩
theorem Run.iadd (K : Ctx Z y bytes maxL ret p s m meth c) {x z : Int32} {pc' : Nat} (hd : decode bytes pc = .ok (.iadd, 1)) (hp : pc + 1 = pc') (k : Run Z a0 n0 p l e R s m args below meth c Ψ D cells slots pc' L (.int (x + z) :: S)) : Run Z a0 n0 p l e R s m args below meth c Ψ D cells slots pc L (.int z :: .int x :: S) := by
  subst hp
  intro T locs X N H
  obtain ⟨t, o, st, r⟩ := k T locs X N H
  exact ⟨t, o, XS.iadd X.here K.1 rfl (hb K.2.2.1 hd) rfl st, r⟩
theorem Run.isub (K : Ctx Z y bytes maxL ret p s m meth c) {x z : Int32} {pc' : Nat} (hd : decode bytes pc = .ok (.isub, 1)) (hp : pc + 1 = pc') (k : Run Z a0 n0 p l e R s m args below meth c Ψ D cells slots pc' L (.int (x - z) :: S)) : Run Z a0 n0 p l e R s m args below meth c Ψ D cells slots pc L (.int z :: .int x :: S) := by
  subst hp
  intro T locs X N H
  obtain ⟨t, o, st, r⟩ := k T locs X N H
  exact ⟨t, o, XS.isub X.here K.1 rfl (hb K.2.2.1 hd) rfl st, r⟩
theorem Run.imul (K : Ctx Z y bytes maxL ret p s m meth c) {x z : Int32} {pc' : Nat} (hd : decode bytes pc = .ok (.imul, 1)) (hp : pc + 1 = pc') (k : Run Z a0 n0 p l e R s m args below meth c Ψ D cells slots pc' L (.int (x * z) :: S)) : Run Z a0 n0 p l e R s m args below meth c Ψ D cells slots pc L (.int z :: .int x :: S) := by
  subst hp
  intro T locs X N H
  obtain ⟨t, o, st, r⟩ := k T locs X N H
  exact ⟨t, o, XS.imul X.here K.1 rfl (hb K.2.2.1 hd) rfl st, r⟩
theorem Run.iand (K : Ctx Z y bytes maxL ret p s m meth c) {x z : Int32} {pc' : Nat} (hd : decode bytes pc = .ok (.iand, 1)) (hp : pc + 1 = pc') (k : Run Z a0 n0 p l e R s m args below meth c Ψ D cells slots pc' L (.int (x &&& z) :: S)) : Run Z a0 n0 p l e R s m args below meth c Ψ D cells slots pc L (.int z :: .int x :: S) := by
  subst hp
  intro T locs X N H
  obtain ⟨t, o, st, r⟩ := k T locs X N H
  exact ⟨t, o, XS.iand X.here K.1 rfl (hb K.2.2.1 hd) rfl st, r⟩
theorem Run.ior (K : Ctx Z y bytes maxL ret p s m meth c) {x z : Int32} {pc' : Nat} (hd : decode bytes pc = .ok (.ior, 1)) (hp : pc + 1 = pc') (k : Run Z a0 n0 p l e R s m args below meth c Ψ D cells slots pc' L (.int (x ||| z) :: S)) : Run Z a0 n0 p l e R s m args below meth c Ψ D cells slots pc L (.int z :: .int x :: S) := by
  subst hp
  intro T locs X N H
  obtain ⟨t, o, st, r⟩ := k T locs X N H
  exact ⟨t, o, XS.ior X.here K.1 rfl (hb K.2.2.1 hd) rfl st, r⟩
theorem Run.ixor (K : Ctx Z y bytes maxL ret p s m meth c) {x z : Int32} {pc' : Nat} (hd : decode bytes pc = .ok (.ixor, 1)) (hp : pc + 1 = pc') (k : Run Z a0 n0 p l e R s m args below meth c Ψ D cells slots pc' L (.int (x ^^^ z) :: S)) : Run Z a0 n0 p l e R s m args below meth c Ψ D cells slots pc L (.int z :: .int x :: S) := by
  subst hp
  intro T locs X N H
  obtain ⟨t, o, st, r⟩ := k T locs X N H
  exact ⟨t, o, XS.ixor X.here K.1 rfl (hb K.2.2.1 hd) rfl st, r⟩
theorem Run.ishl (K : Ctx Z y bytes maxL ret p s m meth c) {x z : Int32} {pc' : Nat} (hd : decode bytes pc = .ok (.ishl, 1)) (hp : pc + 1 = pc') (k : Run Z a0 n0 p l e R s m args below meth c Ψ D cells slots pc' L (.int (x <<< (z &&& 31)) :: S)) : Run Z a0 n0 p l e R s m args below meth c Ψ D cells slots pc L (.int z :: .int x :: S) := by
  subst hp
  intro T locs X N H
  obtain ⟨t, o, st, r⟩ := k T locs X N H
  exact ⟨t, o, XS.ishl X.here K.1 rfl (hb K.2.2.1 hd) rfl st, r⟩
theorem Run.ishr (K : Ctx Z y bytes maxL ret p s m meth c) {x z : Int32} {pc' : Nat} (hd : decode bytes pc = .ok (.ishr, 1)) (hp : pc + 1 = pc') (k : Run Z a0 n0 p l e R s m args below meth c Ψ D cells slots pc' L (.int (x >>> (z &&& 31)) :: S)) : Run Z a0 n0 p l e R s m args below meth c Ψ D cells slots pc L (.int z :: .int x :: S) := by
  subst hp
  intro T locs X N H
  obtain ⟨t, o, st, r⟩ := k T locs X N H
  exact ⟨t, o, XS.ishr X.here K.1 rfl (hb K.2.2.1 hd) rfl st, r⟩
theorem Run.iushr (K : Ctx Z y bytes maxL ret p s m meth c) {x z : Int32} {pc' : Nat} (hd : decode bytes pc = .ok (.iushr, 1)) (hp : pc + 1 = pc') (k : Run Z a0 n0 p l e R s m args below meth c Ψ D cells slots pc' L (.int ((x.toUInt32 >>> (z &&& 31).toUInt32).toInt32) :: S)) : Run Z a0 n0 p l e R s m args below meth c Ψ D cells slots pc L (.int z :: .int x :: S) := by
  subst hp
  intro T locs X N H
  obtain ⟨t, o, st, r⟩ := k T locs X N H
  exact ⟨t, o, XS.iushr X.here K.1 rfl (hb K.2.2.1 hd) rfl st, r⟩
theorem Run.idiv (K : Ctx Z y bytes maxL ret p s m meth c) {x z : Int32} {pc' : Nat} (hd : decode bytes pc = .ok (.idiv, 1)) (hp : pc + 1 = pc') (hz : z ≠ 0) (k : Run Z a0 n0 p l e R s m args below meth c Ψ D cells slots pc' L (.int (x / z) :: S)) : Run Z a0 n0 p l e R s m args below meth c Ψ D cells slots pc L (.int z :: .int x :: S) := by
  subst hp
  intro T locs X N H
  obtain ⟨t, o, st, r⟩ := k T locs X N H
  exact ⟨t, o, XS.idiv X.here K.1 rfl (hb K.2.2.1 hd) rfl hz st, r⟩
theorem Run.irem (K : Ctx Z y bytes maxL ret p s m meth c) {x z : Int32} {pc' : Nat} (hd : decode bytes pc = .ok (.irem, 1)) (hp : pc + 1 = pc') (hz : z ≠ 0) (k : Run Z a0 n0 p l e R s m args below meth c Ψ D cells slots pc' L (.int (x % z) :: S)) : Run Z a0 n0 p l e R s m args below meth c Ψ D cells slots pc L (.int z :: .int x :: S) := by
  subst hp
  intro T locs X N H
  obtain ⟨t, o, st, r⟩ := k T locs X N H
  exact ⟨t, o, iremM X K.1 rfl (hb K.2.2.1 hd) rfl hz st, r⟩
theorem Run.ineg (K : Ctx Z y bytes maxL ret p s m meth c) {x : Int32} {pc' : Nat} (hd : decode bytes pc = .ok (.ineg, 1)) (hp : pc + 1 = pc') (k : Run Z a0 n0 p l e R s m args below meth c Ψ D cells slots pc' L (.int (-x) :: S)) : Run Z a0 n0 p l e R s m args below meth c Ψ D cells slots pc L (.int x :: S) := by
  subst hp
  intro T locs X N H
  obtain ⟨t, o, st, r⟩ := k T locs X N H
  exact ⟨t, o, XS.ineg X.here K.1 rfl (hb K.2.2.1 hd) rfl st, r⟩
theorem Run.ladd (K : Ctx Z y bytes maxL ret p s m meth c) {x z : Int64} {pc' : Nat} (hd : decode bytes pc = .ok (.ladd, 1)) (hp : pc + 1 = pc') (k : Run Z a0 n0 p l e R s m args below meth c Ψ D cells slots pc' L (.long (x + z) :: S)) : Run Z a0 n0 p l e R s m args below meth c Ψ D cells slots pc L (.long z :: .long x :: S) := by
  subst hp
  intro T locs X N H
  obtain ⟨t, o, st, r⟩ := k T locs X N H
  exact ⟨t, o, XS.ladd X.here K.1 rfl (hb K.2.2.1 hd) rfl st, r⟩
theorem Run.lsub (K : Ctx Z y bytes maxL ret p s m meth c) {x z : Int64} {pc' : Nat} (hd : decode bytes pc = .ok (.lsub, 1)) (hp : pc + 1 = pc') (k : Run Z a0 n0 p l e R s m args below meth c Ψ D cells slots pc' L (.long (x - z) :: S)) : Run Z a0 n0 p l e R s m args below meth c Ψ D cells slots pc L (.long z :: .long x :: S) := by
  subst hp
  intro T locs X N H
  obtain ⟨t, o, st, r⟩ := k T locs X N H
  exact ⟨t, o, XS.lsub X.here K.1 rfl (hb K.2.2.1 hd) rfl st, r⟩
theorem Run.lmul (K : Ctx Z y bytes maxL ret p s m meth c) {x z : Int64} {pc' : Nat} (hd : decode bytes pc = .ok (.lmul, 1)) (hp : pc + 1 = pc') (k : Run Z a0 n0 p l e R s m args below meth c Ψ D cells slots pc' L (.long (x * z) :: S)) : Run Z a0 n0 p l e R s m args below meth c Ψ D cells slots pc L (.long z :: .long x :: S) := by
  subst hp
  intro T locs X N H
  obtain ⟨t, o, st, r⟩ := k T locs X N H
  exact ⟨t, o, XS.lmul X.here K.1 rfl (hb K.2.2.1 hd) rfl st, r⟩
theorem Run.land (K : Ctx Z y bytes maxL ret p s m meth c) {x z : Int64} {pc' : Nat} (hd : decode bytes pc = .ok (.land, 1)) (hp : pc + 1 = pc') (k : Run Z a0 n0 p l e R s m args below meth c Ψ D cells slots pc' L (.long (x &&& z) :: S)) : Run Z a0 n0 p l e R s m args below meth c Ψ D cells slots pc L (.long z :: .long x :: S) := by
  subst hp
  intro T locs X N H
  obtain ⟨t, o, st, r⟩ := k T locs X N H
  exact ⟨t, o, XS.land X.here K.1 rfl (hb K.2.2.1 hd) rfl st, r⟩
theorem Run.lor (K : Ctx Z y bytes maxL ret p s m meth c) {x z : Int64} {pc' : Nat} (hd : decode bytes pc = .ok (.lor, 1)) (hp : pc + 1 = pc') (k : Run Z a0 n0 p l e R s m args below meth c Ψ D cells slots pc' L (.long (x ||| z) :: S)) : Run Z a0 n0 p l e R s m args below meth c Ψ D cells slots pc L (.long z :: .long x :: S) := by
  subst hp
  intro T locs X N H
  obtain ⟨t, o, st, r⟩ := k T locs X N H
  exact ⟨t, o, XS.lor X.here K.1 rfl (hb K.2.2.1 hd) rfl st, r⟩
theorem Run.lxor (K : Ctx Z y bytes maxL ret p s m meth c) {x z : Int64} {pc' : Nat} (hd : decode bytes pc = .ok (.lxor, 1)) (hp : pc + 1 = pc') (k : Run Z a0 n0 p l e R s m args below meth c Ψ D cells slots pc' L (.long (x ^^^ z) :: S)) : Run Z a0 n0 p l e R s m args below meth c Ψ D cells slots pc L (.long z :: .long x :: S) := by
  subst hp
  intro T locs X N H
  obtain ⟨t, o, st, r⟩ := k T locs X N H
  exact ⟨t, o, XS.lxor X.here K.1 rfl (hb K.2.2.1 hd) rfl st, r⟩
theorem Run.ldiv (K : Ctx Z y bytes maxL ret p s m meth c) {x z : Int64} {pc' : Nat} (hd : decode bytes pc = .ok (.ldiv, 1)) (hp : pc + 1 = pc') (hz : z ≠ 0) (k : Run Z a0 n0 p l e R s m args below meth c Ψ D cells slots pc' L (.long (x / z) :: S)) : Run Z a0 n0 p l e R s m args below meth c Ψ D cells slots pc L (.long z :: .long x :: S) := by
  subst hp
  intro T locs X N H
  obtain ⟨t, o, st, r⟩ := k T locs X N H
  exact ⟨t, o, XS.ldiv X.here K.1 rfl (hb K.2.2.1 hd) rfl hz st, r⟩
theorem Run.lrem (K : Ctx Z y bytes maxL ret p s m meth c) {x z : Int64} {pc' : Nat} (hd : decode bytes pc = .ok (.lrem, 1)) (hp : pc + 1 = pc') (hz : z ≠ 0) (k : Run Z a0 n0 p l e R s m args below meth c Ψ D cells slots pc' L (.long (x % z) :: S)) : Run Z a0 n0 p l e R s m args below meth c Ψ D cells slots pc L (.long z :: .long x :: S) := by
  subst hp
  rw [← lrem_mod] at k
  intro T locs X N H
  obtain ⟨t, o, st, r⟩ := k T locs X N H
  exact ⟨t, o, XS.lrem X.here K.1 rfl (hb K.2.2.1 hd) rfl hz st, r⟩
theorem Run.lneg (K : Ctx Z y bytes maxL ret p s m meth c) {x : Int64} {pc' : Nat} (hd : decode bytes pc = .ok (.lneg, 1)) (hp : pc + 1 = pc') (k : Run Z a0 n0 p l e R s m args below meth c Ψ D cells slots pc' L (.long (-x) :: S)) : Run Z a0 n0 p l e R s m args below meth c Ψ D cells slots pc L (.long x :: S) := by
  subst hp
  intro T locs X N H
  obtain ⟨t, o, st, r⟩ := k T locs X N H
  exact ⟨t, o, XS.lneg X.here K.1 rfl (hb K.2.2.1 hd) rfl st, r⟩
theorem Run.lshl (K : Ctx Z y bytes maxL ret p s m meth c) {x : Int64} {z : Int32} {pc' : Nat} (hd : decode bytes pc = .ok (.lshl, 1)) (hp : pc + 1 = pc') (k : Run Z a0 n0 p l e R s m args below meth c Ψ D cells slots pc' L (.long (x <<< (z &&& 0x3f).toInt64) :: S)) : Run Z a0 n0 p l e R s m args below meth c Ψ D cells slots pc L (.int z :: .long x :: S) := by
  subst hp
  intro T locs X N H
  obtain ⟨t, o, st, r⟩ := k T locs X N H
  exact ⟨t, o, XS.lshl X.here K.1 rfl (hb K.2.2.1 hd) rfl st, r⟩
theorem Run.lshr (K : Ctx Z y bytes maxL ret p s m meth c) {x : Int64} {z : Int32} {pc' : Nat} (hd : decode bytes pc = .ok (.lshr, 1)) (hp : pc + 1 = pc') (k : Run Z a0 n0 p l e R s m args below meth c Ψ D cells slots pc' L (.long (x >>> (z &&& 0x3f).toInt64) :: S)) : Run Z a0 n0 p l e R s m args below meth c Ψ D cells slots pc L (.int z :: .long x :: S) := by
  subst hp
  intro T locs X N H
  obtain ⟨t, o, st, r⟩ := k T locs X N H
  exact ⟨t, o, XS.lshr X.here K.1 rfl (hb K.2.2.1 hd) rfl st, r⟩
theorem Run.lushr (K : Ctx Z y bytes maxL ret p s m meth c) {x : Int64} {z : Int32} {pc' : Nat} (hd : decode bytes pc = .ok (.lushr, 1)) (hp : pc + 1 = pc') (k : Run Z a0 n0 p l e R s m args below meth c Ψ D cells slots pc' L (.long ((x.toUInt64 >>> (z &&& 0x3f).toInt64.toUInt64).toInt64) :: S)) : Run Z a0 n0 p l e R s m args below meth c Ψ D cells slots pc L (.int z :: .long x :: S) := by
  subst hp
  intro T locs X N H
  obtain ⟨t, o, st, r⟩ := k T locs X N H
  exact ⟨t, o, XS.lushr X.here K.1 rfl (hb K.2.2.1 hd) rfl st, r⟩
theorem Run.i2l (K : Ctx Z y bytes maxL ret p s m meth c) {x : Int32} {pc' : Nat} (hd : decode bytes pc = .ok (.i2l, 1)) (hp : pc + 1 = pc') (k : Run Z a0 n0 p l e R s m args below meth c Ψ D cells slots pc' L (.long (x.toInt64) :: S)) : Run Z a0 n0 p l e R s m args below meth c Ψ D cells slots pc L (.int x :: S) := by
  subst hp
  intro T locs X N H
  obtain ⟨t, o, st, r⟩ := k T locs X N H
  exact ⟨t, o, XS.i2l X.here K.1 rfl (hb K.2.2.1 hd) rfl st, r⟩
theorem Run.l2i (K : Ctx Z y bytes maxL ret p s m meth c) {x : Int64} {pc' : Nat} (hd : decode bytes pc = .ok (.l2i, 1)) (hp : pc + 1 = pc') (k : Run Z a0 n0 p l e R s m args below meth c Ψ D cells slots pc' L (.int (x.toInt32) :: S)) : Run Z a0 n0 p l e R s m args below meth c Ψ D cells slots pc L (.long x :: S) := by
  subst hp
  intro T locs X N H
  obtain ⟨t, o, st, r⟩ := k T locs X N H
  exact ⟨t, o, XS.l2i X.here K.1 rfl (hb K.2.2.1 hd) rfl st, r⟩
theorem Run.i2b (K : Ctx Z y bytes maxL ret p s m meth c) {x : Int32} {pc' : Nat} (hd : decode bytes pc = .ok (.i2b, 1)) (hp : pc + 1 = pc') (k : Run Z a0 n0 p l e R s m args below meth c Ψ D cells slots pc' L (.int (x.toInt8.toInt32) :: S)) : Run Z a0 n0 p l e R s m args below meth c Ψ D cells slots pc L (.int x :: S) := by
  subst hp
  intro T locs X N H
  obtain ⟨t, o, st, r⟩ := k T locs X N H
  exact ⟨t, o, XS.i2b X.here K.1 rfl (hb K.2.2.1 hd) rfl st, r⟩
theorem Run.i2c (K : Ctx Z y bytes maxL ret p s m meth c) {x : Int32} {pc' : Nat} (hd : decode bytes pc = .ok (.i2c, 1)) (hp : pc + 1 = pc') (k : Run Z a0 n0 p l e R s m args below meth c Ψ D cells slots pc' L (.int (x.toUInt32.toUInt16.toUInt32.toInt32) :: S)) : Run Z a0 n0 p l e R s m args below meth c Ψ D cells slots pc L (.int x :: S) := by
  subst hp
  intro T locs X N H
  obtain ⟨t, o, st, r⟩ := k T locs X N H
  exact ⟨t, o, XS.i2c X.here K.1 rfl (hb K.2.2.1 hd) rfl st, r⟩
theorem Run.i2s (K : Ctx Z y bytes maxL ret p s m meth c) {x : Int32} {pc' : Nat} (hd : decode bytes pc = .ok (.i2s, 1)) (hp : pc + 1 = pc') (k : Run Z a0 n0 p l e R s m args below meth c Ψ D cells slots pc' L (.int (x.toInt16.toInt32) :: S)) : Run Z a0 n0 p l e R s m args below meth c Ψ D cells slots pc L (.int x :: S) := by
  subst hp
  intro T locs X N H
  obtain ⟨t, o, st, r⟩ := k T locs X N H
  exact ⟨t, o, XS.i2s X.here K.1 rfl (hb K.2.2.1 hd) rfl st, r⟩
theorem Run.lcmp (K : Ctx Z y bytes maxL ret p s m meth c) {x z : Int64} {pc' : Nat} (hd : decode bytes pc = .ok (.lcmp, 1)) (hp : pc + 1 = pc') (k : Run Z a0 n0 p l e R s m args below meth c Ψ D cells slots pc' L (.int (lcmpW x z) :: S)) : Run Z a0 n0 p l e R s m args below meth c Ψ D cells slots pc L (.long z :: .long x :: S) := by
  subst hp
  intro T locs X N H
  obtain ⟨t, o, st, r⟩ := k T locs X N H
  exact ⟨t, o, XS.lcmp X.here K.1 rfl (hb K.2.2.1 hd) rfl st, r⟩
theorem Run.dup (K : Ctx Z y bytes maxL ret p s m meth c) {v : Value} {pc' : Nat} (hd : decode bytes pc = .ok (.dup, 1)) (hp : pc + 1 = pc') (hc : v.category = 1) (k : Run Z a0 n0 p l e R s m args below meth c Ψ D cells slots pc' L (v :: v :: S)) : Run Z a0 n0 p l e R s m args below meth c Ψ D cells slots pc L (v :: S) := by
  subst hp
  intro T locs X N H
  obtain ⟨t, o, st, r⟩ := k T locs X N H
  exact ⟨t, o, XS.dup X.here K.1 rfl (hb K.2.2.1 hd) rfl hc st, r⟩
theorem Run.pop (K : Ctx Z y bytes maxL ret p s m meth c) {v : Value} {pc' : Nat} (hd : decode bytes pc = .ok (.pop, 1)) (hp : pc + 1 = pc') (hc : v.category = 1) (k : Run Z a0 n0 p l e R s m args below meth c Ψ D cells slots pc' L S) : Run Z a0 n0 p l e R s m args below meth c Ψ D cells slots pc L (v :: S) := by
  subst hp
  intro T locs X N H
  obtain ⟨t, o, st, r⟩ := k T locs X N H
  exact ⟨t, o, XS.pop X.here K.1 rfl (hb K.2.2.1 hd) rfl hc st, r⟩
theorem Run.dupX1 (K : Ctx Z y bytes maxL ret p s m meth c) {v w : Value} {pc' : Nat} (hd : decode bytes pc = .ok (.dup_x1, 1)) (hp : pc + 1 = pc') (hc : v.category = 1) (hc2 : w.category = 1) (k : Run Z a0 n0 p l e R s m args below meth c Ψ D cells slots pc' L (v :: w :: v :: S)) : Run Z a0 n0 p l e R s m args below meth c Ψ D cells slots pc L (v :: w :: S) := by
  subst hp
  intro T locs X N H
  obtain ⟨t, o, st, r⟩ := k T locs X N H
  exact ⟨t, o, XS.dupX1 X.here K.1 rfl (hb K.2.2.1 hd) rfl hc hc2 st, r⟩
theorem Run.iload (K : Ctx Z y bytes maxL ret p s m meth c) {j : Nat} {v : Int32} {pc' : Nat} (hd : decode bytes pc = .ok (.iload j, 2)) (hp : pc + 2 = pc') (hl : L[j]? = some (.val (.int v))) (k : Run Z a0 n0 p l e R s m args below meth c Ψ D cells slots pc' L (.int v :: S)) : Run Z a0 n0 p l e R s m args below meth c Ψ D cells slots pc L S := by
  subst hp
  intro T locs X N H
  obtain ⟨t, o, st, r⟩ := k T locs X N H
  exact ⟨t, o, XS.iload X.here K.1 rfl (hb K.2.2.1 hd) hl st, r⟩
theorem Run.iloadN (K : Ctx Z y bytes maxL ret p s m meth c) {j : Fin 4} {v : Int32} {pc' : Nat} (hd : decode bytes pc = .ok (.iload_n j, 1)) (hp : pc + 1 = pc') (hl : L[j.val]? = some (.val (.int v))) (k : Run Z a0 n0 p l e R s m args below meth c Ψ D cells slots pc' L (.int v :: S)) : Run Z a0 n0 p l e R s m args below meth c Ψ D cells slots pc L S := by
  subst hp
  intro T locs X N H
  obtain ⟨t, o, st, r⟩ := k T locs X N H
  exact ⟨t, o, XS.iloadN X.here K.1 rfl (hb K.2.2.1 hd) hl st, r⟩
theorem Run.istore (K : Ctx Z y bytes maxL ret p s m meth c) {j : Nat} {v : Int32} {L' : Array Slot} {pc' : Nat} (hd : decode bytes pc = .ok (.istore j, 2)) (hp : pc + 2 = pc') (hl : storeLocals L j (.int v) = some L') (k : Run Z a0 n0 p l e R s m args below meth c Ψ D cells slots pc' L' S) : Run Z a0 n0 p l e R s m args below meth c Ψ D cells slots pc L (.int v :: S) := by
  subst hp
  intro T locs X N H
  obtain ⟨t, o, st, r⟩ := k T locs X N H
  exact ⟨t, o, XS.istore X.here K.1 rfl (hb K.2.2.1 hd) rfl hl st, r⟩
theorem Run.istoreN (K : Ctx Z y bytes maxL ret p s m meth c) {j : Fin 4} {v : Int32} {L' : Array Slot} {pc' : Nat} (hd : decode bytes pc = .ok (.istore_n j, 1)) (hp : pc + 1 = pc') (hl : storeLocals L j.val (.int v) = some L') (k : Run Z a0 n0 p l e R s m args below meth c Ψ D cells slots pc' L' S) : Run Z a0 n0 p l e R s m args below meth c Ψ D cells slots pc L (.int v :: S) := by
  subst hp
  intro T locs X N H
  obtain ⟨t, o, st, r⟩ := k T locs X N H
  exact ⟨t, o, XS.istoreN X.here K.1 rfl (hb K.2.2.1 hd) rfl hl st, r⟩
theorem Run.lload (K : Ctx Z y bytes maxL ret p s m meth c) {j : Nat} {v : Int64} {pc' : Nat} (hd : decode bytes pc = .ok (.lload j, 2)) (hp : pc + 2 = pc') (hl : L[j]? = some (.val (.long v))) (k : Run Z a0 n0 p l e R s m args below meth c Ψ D cells slots pc' L (.long v :: S)) : Run Z a0 n0 p l e R s m args below meth c Ψ D cells slots pc L S := by
  subst hp
  intro T locs X N H
  obtain ⟨t, o, st, r⟩ := k T locs X N H
  exact ⟨t, o, XS.lload X.here K.1 rfl (hb K.2.2.1 hd) hl st, r⟩
theorem Run.lloadN (K : Ctx Z y bytes maxL ret p s m meth c) {j : Fin 4} {v : Int64} {pc' : Nat} (hd : decode bytes pc = .ok (.lload_n j, 1)) (hp : pc + 1 = pc') (hl : L[j.val]? = some (.val (.long v))) (k : Run Z a0 n0 p l e R s m args below meth c Ψ D cells slots pc' L (.long v :: S)) : Run Z a0 n0 p l e R s m args below meth c Ψ D cells slots pc L S := by
  subst hp
  intro T locs X N H
  obtain ⟨t, o, st, r⟩ := k T locs X N H
  exact ⟨t, o, XS.lloadN X.here K.1 rfl (hb K.2.2.1 hd) hl st, r⟩
theorem Run.lstore (K : Ctx Z y bytes maxL ret p s m meth c) {j : Nat} {v : Int64} {L' : Array Slot} {pc' : Nat} (hd : decode bytes pc = .ok (.lstore j, 2)) (hp : pc + 2 = pc') (hl : storeLocals L j (.long v) = some L') (k : Run Z a0 n0 p l e R s m args below meth c Ψ D cells slots pc' L' S) : Run Z a0 n0 p l e R s m args below meth c Ψ D cells slots pc L (.long v :: S) := by
  subst hp
  intro T locs X N H
  obtain ⟨t, o, st, r⟩ := k T locs X N H
  exact ⟨t, o, XS.lstore X.here K.1 rfl (hb K.2.2.1 hd) rfl hl st, r⟩
theorem Run.lstoreN (K : Ctx Z y bytes maxL ret p s m meth c) {j : Fin 4} {v : Int64} {L' : Array Slot} {pc' : Nat} (hd : decode bytes pc = .ok (.lstore_n j, 1)) (hp : pc + 1 = pc') (hl : storeLocals L j.val (.long v) = some L') (k : Run Z a0 n0 p l e R s m args below meth c Ψ D cells slots pc' L' S) : Run Z a0 n0 p l e R s m args below meth c Ψ D cells slots pc L (.long v :: S) := by
  subst hp
  intro T locs X N H
  obtain ⟨t, o, st, r⟩ := k T locs X N H
  exact ⟨t, o, XS.lstoreN X.here K.1 rfl (hb K.2.2.1 hd) rfl hl st, r⟩
theorem Run.aload (K : Ctx Z y bytes maxL ret p s m meth c) {j : Nat} {v : Value} {pc' : Nat} (hd : decode bytes pc = .ok (.aload j, 2)) (hp : pc + 2 = pc') (hl : L[j]? = some (.val v)) (hv : v.isRef = true) (k : Run Z a0 n0 p l e R s m args below meth c Ψ D cells slots pc' L (v :: S)) : Run Z a0 n0 p l e R s m args below meth c Ψ D cells slots pc L S := by
  subst hp
  intro T locs X N H
  obtain ⟨t, o, st, r⟩ := k T locs X N H
  exact ⟨t, o, XS.aload X.here K.1 rfl (hb K.2.2.1 hd) hl hv st, r⟩
theorem Run.aloadN (K : Ctx Z y bytes maxL ret p s m meth c) {j : Fin 4} {v : Value} {pc' : Nat} (hd : decode bytes pc = .ok (.aload_n j, 1)) (hp : pc + 1 = pc') (hl : L[j.val]? = some (.val v)) (hv : v.isRef = true) (k : Run Z a0 n0 p l e R s m args below meth c Ψ D cells slots pc' L (v :: S)) : Run Z a0 n0 p l e R s m args below meth c Ψ D cells slots pc L S := by
  subst hp
  intro T locs X N H
  obtain ⟨t, o, st, r⟩ := k T locs X N H
  exact ⟨t, o, XS.aloadN X.here K.1 rfl (hb K.2.2.1 hd) hl hv st, r⟩
theorem Run.astore (K : Ctx Z y bytes maxL ret p s m meth c) {j : Nat} {v : Value} {L' : Array Slot} {pc' : Nat} (hd : decode bytes pc = .ok (.astore j, 2)) (hp : pc + 2 = pc') (hv : v.isRef = true) (hl : storeLocals L j v = some L') (k : Run Z a0 n0 p l e R s m args below meth c Ψ D cells slots pc' L' S) : Run Z a0 n0 p l e R s m args below meth c Ψ D cells slots pc L (v :: S) := by
  subst hp
  intro T locs X N H
  obtain ⟨t, o, st, r⟩ := k T locs X N H
  exact ⟨t, o, XS.astore X.here K.1 rfl (hb K.2.2.1 hd) rfl hv hl st, r⟩
theorem Run.astoreN (K : Ctx Z y bytes maxL ret p s m meth c) {j : Fin 4} {v : Value} {L' : Array Slot} {pc' : Nat} (hd : decode bytes pc = .ok (.astore_n j, 1)) (hp : pc + 1 = pc') (hv : v.isRef = true) (hl : storeLocals L j.val v = some L') (k : Run Z a0 n0 p l e R s m args below meth c Ψ D cells slots pc' L' S) : Run Z a0 n0 p l e R s m args below meth c Ψ D cells slots pc L (v :: S) := by
  subst hp
  intro T locs X N H
  obtain ⟨t, o, st, r⟩ := k T locs X N H
  exact ⟨t, o, XS.astoreN X.here K.1 rfl (hb K.2.2.1 hd) rfl hv hl st, r⟩
theorem Run.dup2 (K : Ctx Z y bytes maxL ret p s m meth c) {v w : Value} {pc' : Nat} (hd : decode bytes pc = .ok (.dup2, 1)) (hp : pc + 1 = pc') (hc : v.category = 1) (hc2 : w.category = 1) (k : Run Z a0 n0 p l e R s m args below meth c Ψ D cells slots pc' L (v :: w :: v :: w :: S)) : Run Z a0 n0 p l e R s m args below meth c Ψ D cells slots pc L (v :: w :: S) := by
  subst hp
  intro T locs X N H
  obtain ⟨t, o, st, r⟩ := k T locs X N H
  exact ⟨t, o, Jvm.Free.XT.dup2 X.here K.1 rfl (hb K.2.2.1 hd) rfl hc hc2 st, r⟩
theorem Run.dup2L (K : Ctx Z y bytes maxL ret p s m meth c) {x : Int64} {pc' : Nat} (hd : decode bytes pc = .ok (.dup2, 1)) (hp : pc + 1 = pc') (k : Run Z a0 n0 p l e R s m args below meth c Ψ D cells slots pc' L (.long x :: .long x :: S)) : Run Z a0 n0 p l e R s m args below meth c Ψ D cells slots pc L (.long x :: S) := by
  subst hp
  intro T locs X N H
  obtain ⟨t, o, st, r⟩ := k T locs X N H
  exact ⟨t, o, Jvm.Free.XT.dup2L X.here K.1 rfl (hb K.2.2.1 hd) rfl st, r⟩
theorem Run.iinc (K : Ctx Z y bytes maxL ret p s m meth c) {j : Nat} {i : Int} {v : Int32} {L' : Array Slot} {pc' : Nat} (hd : decode bytes pc = .ok (.iinc j i, 3)) (hp : pc + 3 = pc') (hl : L[j]? = some (.val (.int v))) (hl' : storeLocals L j (.int (v + Int32.ofInt i)) = some L') (k : Run Z a0 n0 p l e R s m args below meth c Ψ D cells slots pc' L' S) : Run Z a0 n0 p l e R s m args below meth c Ψ D cells slots pc L S := by
  subst hp
  intro T locs X N H
  obtain ⟨t, o, st, r⟩ := k T locs X N H
  exact ⟨t, o, XS.iinc X.here K.1 rfl (hb K.2.2.1 hd) hl hl' st, r⟩
theorem Run.idivV (K : Ctx Z y bytes maxL ret p s m meth c) {x z v : Int32} {pc' : Nat} (hd : decode bytes pc = .ok (.idiv, 1)) (hp : pc + 1 = pc') (hz : z ≠ 0) (hv : x / z = v) (k : Run Z a0 n0 p l e R s m args below meth c Ψ D cells slots pc' L (.int v :: S)) : Run Z a0 n0 p l e R s m args below meth c Ψ D cells slots pc L (.int z :: .int x :: S) := Run.idiv K hd hp hz (by rw [hv]; exact k)
theorem Run.iremV (K : Ctx Z y bytes maxL ret p s m meth c) {x z v : Int32} {pc' : Nat} (hd : decode bytes pc = .ok (.irem, 1)) (hp : pc + 1 = pc') (hz : z ≠ 0) (hv : x % z = v) (k : Run Z a0 n0 p l e R s m args below meth c Ψ D cells slots pc' L (.int v :: S)) : Run Z a0 n0 p l e R s m args below meth c Ψ D cells slots pc L (.int z :: .int x :: S) := Run.irem K hd hp hz (by rw [hv]; exact k)
theorem Run.ldivV (K : Ctx Z y bytes maxL ret p s m meth c) {x z v : Int64} {pc' : Nat} (hd : decode bytes pc = .ok (.ldiv, 1)) (hp : pc + 1 = pc') (hz : z ≠ 0) (hv : x / z = v) (k : Run Z a0 n0 p l e R s m args below meth c Ψ D cells slots pc' L (.long v :: S)) : Run Z a0 n0 p l e R s m args below meth c Ψ D cells slots pc L (.long z :: .long x :: S) := Run.ldiv K hd hp hz (by rw [hv]; exact k)
theorem Run.lremV (K : Ctx Z y bytes maxL ret p s m meth c) {x z v : Int64} {pc' : Nat} (hd : decode bytes pc = .ok (.lrem, 1)) (hp : pc + 1 = pc') (hz : z ≠ 0) (hv : x % z = v) (k : Run Z a0 n0 p l e R s m args below meth c Ψ D cells slots pc' L (.long v :: S)) : Run Z a0 n0 p l e R s m args below meth c Ψ D cells slots pc L (.long z :: .long x :: S) := Run.lrem K hd hp hz (by rw [hv]; exact k)
theorem Run.iaddV (K : Ctx Z y bytes maxL ret p s m meth c) {x z : Int32} {v : Int32} {pc' : Nat} (hd : decode bytes pc = .ok (.iadd, 1)) (hp : pc + 1 = pc') (hv : x + z = v) (k : Run Z a0 n0 p l e R s m args below meth c Ψ D cells slots pc' L (.int v :: S)) : Run Z a0 n0 p l e R s m args below meth c Ψ D cells slots pc L (.int z :: .int x :: S) := Run.iadd K hd hp (by rw [hv]; exact k)
theorem Run.isubV (K : Ctx Z y bytes maxL ret p s m meth c) {x z : Int32} {v : Int32} {pc' : Nat} (hd : decode bytes pc = .ok (.isub, 1)) (hp : pc + 1 = pc') (hv : x - z = v) (k : Run Z a0 n0 p l e R s m args below meth c Ψ D cells slots pc' L (.int v :: S)) : Run Z a0 n0 p l e R s m args below meth c Ψ D cells slots pc L (.int z :: .int x :: S) := Run.isub K hd hp (by rw [hv]; exact k)
theorem Run.imulV (K : Ctx Z y bytes maxL ret p s m meth c) {x z : Int32} {v : Int32} {pc' : Nat} (hd : decode bytes pc = .ok (.imul, 1)) (hp : pc + 1 = pc') (hv : x * z = v) (k : Run Z a0 n0 p l e R s m args below meth c Ψ D cells slots pc' L (.int v :: S)) : Run Z a0 n0 p l e R s m args below meth c Ψ D cells slots pc L (.int z :: .int x :: S) := Run.imul K hd hp (by rw [hv]; exact k)
theorem Run.iandV (K : Ctx Z y bytes maxL ret p s m meth c) {x z : Int32} {v : Int32} {pc' : Nat} (hd : decode bytes pc = .ok (.iand, 1)) (hp : pc + 1 = pc') (hv : x &&& z = v) (k : Run Z a0 n0 p l e R s m args below meth c Ψ D cells slots pc' L (.int v :: S)) : Run Z a0 n0 p l e R s m args below meth c Ψ D cells slots pc L (.int z :: .int x :: S) := Run.iand K hd hp (by rw [hv]; exact k)
theorem Run.iorV (K : Ctx Z y bytes maxL ret p s m meth c) {x z : Int32} {v : Int32} {pc' : Nat} (hd : decode bytes pc = .ok (.ior, 1)) (hp : pc + 1 = pc') (hv : x ||| z = v) (k : Run Z a0 n0 p l e R s m args below meth c Ψ D cells slots pc' L (.int v :: S)) : Run Z a0 n0 p l e R s m args below meth c Ψ D cells slots pc L (.int z :: .int x :: S) := Run.ior K hd hp (by rw [hv]; exact k)
theorem Run.ixorV (K : Ctx Z y bytes maxL ret p s m meth c) {x z : Int32} {v : Int32} {pc' : Nat} (hd : decode bytes pc = .ok (.ixor, 1)) (hp : pc + 1 = pc') (hv : x ^^^ z = v) (k : Run Z a0 n0 p l e R s m args below meth c Ψ D cells slots pc' L (.int v :: S)) : Run Z a0 n0 p l e R s m args below meth c Ψ D cells slots pc L (.int z :: .int x :: S) := Run.ixor K hd hp (by rw [hv]; exact k)
theorem Run.ishlV (K : Ctx Z y bytes maxL ret p s m meth c) {x z : Int32} {v : Int32} {pc' : Nat} (hd : decode bytes pc = .ok (.ishl, 1)) (hp : pc + 1 = pc') (hv : x <<< (z &&& 31) = v) (k : Run Z a0 n0 p l e R s m args below meth c Ψ D cells slots pc' L (.int v :: S)) : Run Z a0 n0 p l e R s m args below meth c Ψ D cells slots pc L (.int z :: .int x :: S) := Run.ishl K hd hp (by rw [hv]; exact k)
theorem Run.ishrV (K : Ctx Z y bytes maxL ret p s m meth c) {x z : Int32} {v : Int32} {pc' : Nat} (hd : decode bytes pc = .ok (.ishr, 1)) (hp : pc + 1 = pc') (hv : x >>> (z &&& 31) = v) (k : Run Z a0 n0 p l e R s m args below meth c Ψ D cells slots pc' L (.int v :: S)) : Run Z a0 n0 p l e R s m args below meth c Ψ D cells slots pc L (.int z :: .int x :: S) := Run.ishr K hd hp (by rw [hv]; exact k)
theorem Run.iushrV (K : Ctx Z y bytes maxL ret p s m meth c) {x z : Int32} {v : Int32} {pc' : Nat} (hd : decode bytes pc = .ok (.iushr, 1)) (hp : pc + 1 = pc') (hv : (x.toUInt32 >>> (z &&& 31).toUInt32).toInt32 = v) (k : Run Z a0 n0 p l e R s m args below meth c Ψ D cells slots pc' L (.int v :: S)) : Run Z a0 n0 p l e R s m args below meth c Ψ D cells slots pc L (.int z :: .int x :: S) := Run.iushr K hd hp (by rw [hv]; exact k)
theorem Run.inegV (K : Ctx Z y bytes maxL ret p s m meth c) {x : Int32} {v : Int32} {pc' : Nat} (hd : decode bytes pc = .ok (.ineg, 1)) (hp : pc + 1 = pc') (hv : -x = v) (k : Run Z a0 n0 p l e R s m args below meth c Ψ D cells slots pc' L (.int v :: S)) : Run Z a0 n0 p l e R s m args below meth c Ψ D cells slots pc L (.int x :: S) := Run.ineg K hd hp (by rw [hv]; exact k)
theorem Run.laddV (K : Ctx Z y bytes maxL ret p s m meth c) {x z : Int64} {v : Int64} {pc' : Nat} (hd : decode bytes pc = .ok (.ladd, 1)) (hp : pc + 1 = pc') (hv : x + z = v) (k : Run Z a0 n0 p l e R s m args below meth c Ψ D cells slots pc' L (.long v :: S)) : Run Z a0 n0 p l e R s m args below meth c Ψ D cells slots pc L (.long z :: .long x :: S) := Run.ladd K hd hp (by rw [hv]; exact k)
theorem Run.lsubV (K : Ctx Z y bytes maxL ret p s m meth c) {x z : Int64} {v : Int64} {pc' : Nat} (hd : decode bytes pc = .ok (.lsub, 1)) (hp : pc + 1 = pc') (hv : x - z = v) (k : Run Z a0 n0 p l e R s m args below meth c Ψ D cells slots pc' L (.long v :: S)) : Run Z a0 n0 p l e R s m args below meth c Ψ D cells slots pc L (.long z :: .long x :: S) := Run.lsub K hd hp (by rw [hv]; exact k)
theorem Run.lmulV (K : Ctx Z y bytes maxL ret p s m meth c) {x z : Int64} {v : Int64} {pc' : Nat} (hd : decode bytes pc = .ok (.lmul, 1)) (hp : pc + 1 = pc') (hv : x * z = v) (k : Run Z a0 n0 p l e R s m args below meth c Ψ D cells slots pc' L (.long v :: S)) : Run Z a0 n0 p l e R s m args below meth c Ψ D cells slots pc L (.long z :: .long x :: S) := Run.lmul K hd hp (by rw [hv]; exact k)
theorem Run.landV (K : Ctx Z y bytes maxL ret p s m meth c) {x z : Int64} {v : Int64} {pc' : Nat} (hd : decode bytes pc = .ok (.land, 1)) (hp : pc + 1 = pc') (hv : x &&& z = v) (k : Run Z a0 n0 p l e R s m args below meth c Ψ D cells slots pc' L (.long v :: S)) : Run Z a0 n0 p l e R s m args below meth c Ψ D cells slots pc L (.long z :: .long x :: S) := Run.land K hd hp (by rw [hv]; exact k)
theorem Run.lorV (K : Ctx Z y bytes maxL ret p s m meth c) {x z : Int64} {v : Int64} {pc' : Nat} (hd : decode bytes pc = .ok (.lor, 1)) (hp : pc + 1 = pc') (hv : x ||| z = v) (k : Run Z a0 n0 p l e R s m args below meth c Ψ D cells slots pc' L (.long v :: S)) : Run Z a0 n0 p l e R s m args below meth c Ψ D cells slots pc L (.long z :: .long x :: S) := Run.lor K hd hp (by rw [hv]; exact k)
theorem Run.lxorV (K : Ctx Z y bytes maxL ret p s m meth c) {x z : Int64} {v : Int64} {pc' : Nat} (hd : decode bytes pc = .ok (.lxor, 1)) (hp : pc + 1 = pc') (hv : x ^^^ z = v) (k : Run Z a0 n0 p l e R s m args below meth c Ψ D cells slots pc' L (.long v :: S)) : Run Z a0 n0 p l e R s m args below meth c Ψ D cells slots pc L (.long z :: .long x :: S) := Run.lxor K hd hp (by rw [hv]; exact k)
theorem Run.lnegV (K : Ctx Z y bytes maxL ret p s m meth c) {x : Int64} {v : Int64} {pc' : Nat} (hd : decode bytes pc = .ok (.lneg, 1)) (hp : pc + 1 = pc') (hv : -x = v) (k : Run Z a0 n0 p l e R s m args below meth c Ψ D cells slots pc' L (.long v :: S)) : Run Z a0 n0 p l e R s m args below meth c Ψ D cells slots pc L (.long x :: S) := Run.lneg K hd hp (by rw [hv]; exact k)
theorem Run.lshlV (K : Ctx Z y bytes maxL ret p s m meth c) {x : Int64} {z : Int32} {v : Int64} {pc' : Nat} (hd : decode bytes pc = .ok (.lshl, 1)) (hp : pc + 1 = pc') (hv : x <<< (z &&& 0x3f).toInt64 = v) (k : Run Z a0 n0 p l e R s m args below meth c Ψ D cells slots pc' L (.long v :: S)) : Run Z a0 n0 p l e R s m args below meth c Ψ D cells slots pc L (.int z :: .long x :: S) := Run.lshl K hd hp (by rw [hv]; exact k)
theorem Run.lshrV (K : Ctx Z y bytes maxL ret p s m meth c) {x : Int64} {z : Int32} {v : Int64} {pc' : Nat} (hd : decode bytes pc = .ok (.lshr, 1)) (hp : pc + 1 = pc') (hv : x >>> (z &&& 0x3f).toInt64 = v) (k : Run Z a0 n0 p l e R s m args below meth c Ψ D cells slots pc' L (.long v :: S)) : Run Z a0 n0 p l e R s m args below meth c Ψ D cells slots pc L (.int z :: .long x :: S) := Run.lshr K hd hp (by rw [hv]; exact k)
theorem Run.lushrV (K : Ctx Z y bytes maxL ret p s m meth c) {x : Int64} {z : Int32} {v : Int64} {pc' : Nat} (hd : decode bytes pc = .ok (.lushr, 1)) (hp : pc + 1 = pc') (hv : (x.toUInt64 >>> (z &&& 0x3f).toInt64.toUInt64).toInt64 = v) (k : Run Z a0 n0 p l e R s m args below meth c Ψ D cells slots pc' L (.long v :: S)) : Run Z a0 n0 p l e R s m args below meth c Ψ D cells slots pc L (.int z :: .long x :: S) := Run.lushr K hd hp (by rw [hv]; exact k)
theorem Run.i2lV (K : Ctx Z y bytes maxL ret p s m meth c) {x : Int32} {v : Int64} {pc' : Nat} (hd : decode bytes pc = .ok (.i2l, 1)) (hp : pc + 1 = pc') (hv : x.toInt64 = v) (k : Run Z a0 n0 p l e R s m args below meth c Ψ D cells slots pc' L (.long v :: S)) : Run Z a0 n0 p l e R s m args below meth c Ψ D cells slots pc L (.int x :: S) := Run.i2l K hd hp (by rw [hv]; exact k)
theorem Run.l2iV (K : Ctx Z y bytes maxL ret p s m meth c) {x : Int64} {v : Int32} {pc' : Nat} (hd : decode bytes pc = .ok (.l2i, 1)) (hp : pc + 1 = pc') (hv : x.toInt32 = v) (k : Run Z a0 n0 p l e R s m args below meth c Ψ D cells slots pc' L (.int v :: S)) : Run Z a0 n0 p l e R s m args below meth c Ψ D cells slots pc L (.long x :: S) := Run.l2i K hd hp (by rw [hv]; exact k)
theorem Run.i2bV (K : Ctx Z y bytes maxL ret p s m meth c) {x : Int32} {v : Int32} {pc' : Nat} (hd : decode bytes pc = .ok (.i2b, 1)) (hp : pc + 1 = pc') (hv : x.toInt8.toInt32 = v) (k : Run Z a0 n0 p l e R s m args below meth c Ψ D cells slots pc' L (.int v :: S)) : Run Z a0 n0 p l e R s m args below meth c Ψ D cells slots pc L (.int x :: S) := Run.i2b K hd hp (by rw [hv]; exact k)
theorem Run.i2cV (K : Ctx Z y bytes maxL ret p s m meth c) {x : Int32} {v : Int32} {pc' : Nat} (hd : decode bytes pc = .ok (.i2c, 1)) (hp : pc + 1 = pc') (hv : x.toUInt32.toUInt16.toUInt32.toInt32 = v) (k : Run Z a0 n0 p l e R s m args below meth c Ψ D cells slots pc' L (.int v :: S)) : Run Z a0 n0 p l e R s m args below meth c Ψ D cells slots pc L (.int x :: S) := Run.i2c K hd hp (by rw [hv]; exact k)
theorem Run.i2sV (K : Ctx Z y bytes maxL ret p s m meth c) {x : Int32} {v : Int32} {pc' : Nat} (hd : decode bytes pc = .ok (.i2s, 1)) (hp : pc + 1 = pc') (hv : x.toInt16.toInt32 = v) (k : Run Z a0 n0 p l e R s m args below meth c Ψ D cells slots pc' L (.int v :: S)) : Run Z a0 n0 p l e R s m args below meth c Ψ D cells slots pc L (.int x :: S) := Run.i2s K hd hp (by rw [hv]; exact k)
theorem Run.lcmpV (K : Ctx Z y bytes maxL ret p s m meth c) {x z : Int64} {v : Int32} {pc' : Nat} (hd : decode bytes pc = .ok (.lcmp, 1)) (hp : pc + 1 = pc') (hv : lcmpW x z = v) (k : Run Z a0 n0 p l e R s m args below meth c Ψ D cells slots pc' L (.int v :: S)) : Run Z a0 n0 p l e R s m args below meth c Ψ D cells slots pc L (.long z :: .long x :: S) := Run.lcmp K hd hp (by rw [hv]; exact k)
theorem Run.pop2L (K : Ctx Z y bytes maxL ret p s m meth c) {x : Int64} {pc' : Nat} (hd : decode bytes pc = .ok (.pop2, 1)) (hp : pc + 1 = pc') (k : Run Z a0 n0 p l e R s m args below meth c Ψ D cells slots pc' L S) : Run Z a0 n0 p l e R s m args below meth c Ψ D cells slots pc L (.long x :: S) := by
  subst hp
  intro T locs X N H
  obtain ⟨t, o, st, r⟩ := k T locs X N H
  have hx := K.1
  have hd' := hb K.2.2.1 hd
  refine ⟨t, o, ?_, r⟩
  jvm_step X.here [X.here.top, hx, hd', Op.pop2.wp_sem, Value.category]
  exact st
theorem Run.goto (K : Ctx Z y bytes maxL ret p s m meth c) {i : Int} {pc' : Nat} (hd : decode bytes pc = .ok (.goto i, 3)) (ho : 0 ≤ (pc : Int) + i) (hp : ((pc : Int) + i).toNat = pc') (k : Run Z a0 n0 p l e R s m args below meth c Ψ D cells slots pc' L S) : Run Z a0 n0 p l e R s m args below meth c Ψ D cells slots pc L S := by
  intro T locs X N H
  obtain ⟨t, o, st, r⟩ := k T locs X N H
  exact ⟨t, o, XS.goto X.here K.1 rfl rfl (hb K.2.2.1 hd) ho hp st, r⟩
theorem Run.icmp (K : Ctx Z y bytes maxL ret p s m meth c) {x z : Int32} {cd : ClassFile.Cond} {i : Int} {pT pF : Nat} (hd : decode bytes pc = .ok (.if_icmp cd i, 3)) (ho : 0 ≤ (pc : Int) + i) (hT : ((pc : Int) + i).toNat = pT) (hF : pc + 3 = pF) (kT : rel cd x z → Run Z a0 n0 p l e R s m args below meth c Ψ D cells slots pT L S) (kF : ¬ rel cd x z → Run Z a0 n0 p l e R s m args below meth c Ψ D cells slots pF L S) : Run Z a0 n0 p l e R s m args below meth c Ψ D cells slots pc L (.int z :: .int x :: S) := by
  subst hF
  intro T locs X N H
  by_cases q : rel cd x z
  · obtain ⟨t, o, st, r⟩ := kT q T locs X N H
    exact ⟨t, o, XS.icmpYes X.here K.1 rfl rfl (hb K.2.2.1 hd) rfl ((rel_iff cd x z).mpr q) ho hT st, r⟩
  · obtain ⟨t, o, st, r⟩ := kF q T locs X N H
    exact ⟨t, o, XS.icmpNo X.here K.1 rfl (hb K.2.2.1 hd) rfl (Bool.eq_false_iff.mpr fun h => q ((rel_iff cd x z).mp h)) st, r⟩
theorem Run.ifc (K : Ctx Z y bytes maxL ret p s m meth c) {x : Int32} {cd : ClassFile.Cond} {i : Int} {pT pF : Nat} (hd : decode bytes pc = .ok (.ifCond cd i, 3)) (ho : 0 ≤ (pc : Int) + i) (hT : ((pc : Int) + i).toNat = pT) (hF : pc + 3 = pF) (kT : rel cd x 0 → Run Z a0 n0 p l e R s m args below meth c Ψ D cells slots pT L S) (kF : ¬ rel cd x 0 → Run Z a0 n0 p l e R s m args below meth c Ψ D cells slots pF L S) : Run Z a0 n0 p l e R s m args below meth c Ψ D cells slots pc L (.int x :: S) := by
  subst hF
  intro T locs X N H
  by_cases q : rel cd x 0
  · obtain ⟨t, o, st, r⟩ := kT q T locs X N H
    exact ⟨t, o, XS.ifYes X.here K.1 rfl rfl (hb K.2.2.1 hd) rfl ((if0 cd x).trans ((rel_iff cd x 0).mpr q)) ho hT st, r⟩
  · obtain ⟨t, o, st, r⟩ := kF q T locs X N H
    exact ⟨t, o, XS.ifNo X.here K.1 rfl (hb K.2.2.1 hd) rfl (Bool.eq_false_iff.mpr fun h => q ((rel_iff cd x 0).mp ((if0 cd x).symm.trans h))) st, r⟩
theorem Run.ifL (K : Ctx Z y bytes maxL ret p s m meth c) {x z : Int64} {cd : ClassFile.Cond} {i : Int} {pT pF : Nat} (hd : decode bytes pc = .ok (.ifCond cd i, 3)) (ho : 0 ≤ (pc : Int) + i) (hT : ((pc : Int) + i).toNat = pT) (hF : pc + 3 = pF) (kT : relL cd x z → Run Z a0 n0 p l e R s m args below meth c Ψ D cells slots pT L S) (kF : ¬ relL cd x z → Run Z a0 n0 p l e R s m args below meth c Ψ D cells slots pF L S) : Run Z a0 n0 p l e R s m args below meth c Ψ D cells slots pc L (.int (lcmpW x z) :: S) := by
  subst hF
  intro T locs X N H
  by_cases q : relL cd x z
  · obtain ⟨t, o, st, r⟩ := kT q T locs X N H
    exact ⟨t, o, XS.ifYes X.here K.1 rfl rfl (hb K.2.2.1 hd) rfl ((if0 cd _).trans ((relL_iff cd x z).mpr q)) ho hT st, r⟩
  · obtain ⟨t, o, st, r⟩ := kF q T locs X N H
    exact ⟨t, o, XS.ifNo X.here K.1 rfl (hb K.2.2.1 hd) rfl (Bool.eq_false_iff.mpr fun h => q ((relL_iff cd x z).mp ((if0 cd _).symm.trans h))) st, r⟩
theorem Run.icmpT (K : Ctx Z y bytes maxL ret p s m meth c) {x z : Int32} {cd : ClassFile.Cond} {i : Int} {pT pF : Nat} (hd : decode bytes pc = .ok (.if_icmp cd i, 3)) (ho : 0 ≤ (pc : Int) + i) (hT : ((pc : Int) + i).toNat = pT) (hF : pc + 3 = pF) (q : rel cd x z) (kT : Run Z a0 n0 p l e R s m args below meth c Ψ D cells slots pT L S) : Run Z a0 n0 p l e R s m args below meth c Ψ D cells slots pc L (.int z :: .int x :: S) := Run.icmp K hd ho hT hF (fun _ => kT) (fun h => absurd q h)
theorem Run.icmpF (K : Ctx Z y bytes maxL ret p s m meth c) {x z : Int32} {cd : ClassFile.Cond} {i : Int} {pT pF : Nat} (hd : decode bytes pc = .ok (.if_icmp cd i, 3)) (ho : 0 ≤ (pc : Int) + i) (hT : ((pc : Int) + i).toNat = pT) (hF : pc + 3 = pF) (q : ¬ rel cd x z) (kF : Run Z a0 n0 p l e R s m args below meth c Ψ D cells slots pF L S) : Run Z a0 n0 p l e R s m args below meth c Ψ D cells slots pc L (.int z :: .int x :: S) := Run.icmp K hd ho hT hF (fun h => absurd h q) (fun _ => kF)
theorem Run.ifcT (K : Ctx Z y bytes maxL ret p s m meth c) {x : Int32} {cd : ClassFile.Cond} {i : Int} {pT pF : Nat} (hd : decode bytes pc = .ok (.ifCond cd i, 3)) (ho : 0 ≤ (pc : Int) + i) (hT : ((pc : Int) + i).toNat = pT) (hF : pc + 3 = pF) (q : rel cd x 0) (kT : Run Z a0 n0 p l e R s m args below meth c Ψ D cells slots pT L S) : Run Z a0 n0 p l e R s m args below meth c Ψ D cells slots pc L (.int x :: S) := Run.ifc K hd ho hT hF (fun _ => kT) (fun h => absurd q h)
theorem Run.ifcF (K : Ctx Z y bytes maxL ret p s m meth c) {x : Int32} {cd : ClassFile.Cond} {i : Int} {pT pF : Nat} (hd : decode bytes pc = .ok (.ifCond cd i, 3)) (ho : 0 ≤ (pc : Int) + i) (hT : ((pc : Int) + i).toNat = pT) (hF : pc + 3 = pF) (q : ¬ rel cd x 0) (kF : Run Z a0 n0 p l e R s m args below meth c Ψ D cells slots pF L S) : Run Z a0 n0 p l e R s m args below meth c Ψ D cells slots pc L (.int x :: S) := Run.ifc K hd ho hT hF (fun h => absurd h q) (fun _ => kF)
theorem Run.ifLT (K : Ctx Z y bytes maxL ret p s m meth c) {x z : Int64} {cd : ClassFile.Cond} {i : Int} {pT pF : Nat} (hd : decode bytes pc = .ok (.ifCond cd i, 3)) (ho : 0 ≤ (pc : Int) + i) (hT : ((pc : Int) + i).toNat = pT) (hF : pc + 3 = pF) (q : relL cd x z) (kT : Run Z a0 n0 p l e R s m args below meth c Ψ D cells slots pT L S) : Run Z a0 n0 p l e R s m args below meth c Ψ D cells slots pc L (.int (lcmpW x z) :: S) := Run.ifL K hd ho hT hF (fun _ => kT) (fun h => absurd q h)
theorem Run.ifLF (K : Ctx Z y bytes maxL ret p s m meth c) {x z : Int64} {cd : ClassFile.Cond} {i : Int} {pT pF : Nat} (hd : decode bytes pc = .ok (.ifCond cd i, 3)) (ho : 0 ≤ (pc : Int) + i) (hT : ((pc : Int) + i).toNat = pT) (hF : pc + 3 = pF) (q : ¬ relL cd x z) (kF : Run Z a0 n0 p l e R s m args below meth c Ψ D cells slots pF L S) : Run Z a0 n0 p l e R s m args below meth c Ψ D cells slots pc L (.int (lcmpW x z) :: S) := Run.ifL K hd ho hT hF (fun h => absurd h q) (fun _ => kF)
theorem Run.ifnonnullT (K : Ctx Z y bytes maxL ret p s m meth c) {a : Addr} {i : Int} {pT : Nat} (hd : decode bytes pc = .ok (.ifnonnull i, 3)) (ho : 0 ≤ (pc : Int) + i) (hT : ((pc : Int) + i).toNat = pT) (k : Run Z a0 n0 p l e R s m args below meth c Ψ D cells slots pT L S) : Run Z a0 n0 p l e R s m args below meth c Ψ D cells slots pc L (.ref a :: S) := by
  intro T locs X N H
  obtain ⟨t, o, st, r⟩ := k T locs X N H
  exact ⟨t, o, XS.ifnonnullYes X.here K.1 rfl rfl (hb K.2.2.1 hd) rfl ho hT st, r⟩
theorem Run.as {D' : HD} (hD : D' = D) (k : Run Z a0 n0 p l e R s m args below meth c Ψ D' cells slots pc L S) : Run Z a0 n0 p l e R s m args below meth c Ψ D cells slots pc L S := by subst hD; exact k
theorem Run.asL {L' : Array Slot} (hL : L = L') (k : Run Z a0 n0 p l e R s m args below meth c Ψ D cells slots pc L' S) : Run Z a0 n0 p l e R s m args below meth c Ψ D cells slots pc L S := by subst hL; exact k
theorem Run.as2 {D' : HD} {S' : List Value} (hD : D' = D) (hS : S' = S) (k : Run Z a0 n0 p l e R s m args below meth c Ψ D' cells slots pc L S') : Run Z a0 n0 p l e R s m args below meth c Ψ D cells slots pc L S := by subst hD hS; exact k
theorem Ret.k {v : Option Value} {D1 : HD} {S' rest : List Value} {cells' slots' pc' : Nat} (hS : S' = v.toList ++ rest) (k : Run Z a0 n0 p l e R s m args below meth c Ψ D1 cells' slots' pc' L S') : ∀ (w : Option Value) (D' : HD), Ret v D1 w D' → Run Z a0 n0 p l e R s m args below meth c Ψ D' cells' slots' pc' L (w.toList ++ rest) := by rintro w D' ⟨rfl, rfl⟩; subst hS; exact k
theorem Run.join0 {D' : HD} {cells' slots' pc' : Nat} {L' : Array Slot} {S' : List Value} (k : Run Z a0 n0 p l e R s m args below meth c Ψ D' cells' slots' pc' L' S') (b : Run Z a0 n0 p l e R s m args below meth c Ψ D' cells' slots' pc' L' S' → Run Z a0 n0 p l e R s m args below meth c Ψ D cells slots pc L S) : Run Z a0 n0 p l e R s m args below meth c Ψ D cells slots pc L S := b k
theorem Run.join1 {α0 : Type} {F : α0 → Prop} {D' : α0 → HD} {cells' slots' pc' : Nat} {L' : α0 → Array Slot} {S' : α0 → List Value} (k : (∀ w0, F w0 → Run Z a0 n0 p l e R s m args below meth c Ψ (D' w0) cells' slots' pc' (L' w0) (S' w0))) (b : (∀ w0, F w0 → Run Z a0 n0 p l e R s m args below meth c Ψ (D' w0) cells' slots' pc' (L' w0) (S' w0)) → Run Z a0 n0 p l e R s m args below meth c Ψ D cells slots pc L S) : Run Z a0 n0 p l e R s m args below meth c Ψ D cells slots pc L S := b k
theorem Run.join2 {α0 : Type} {α1 : Type} {F : α0 → α1 → Prop} {D' : α0 → α1 → HD} {cells' slots' pc' : Nat} {L' : α0 → α1 → Array Slot} {S' : α0 → α1 → List Value} (k : (∀ w0 w1, F w0 w1 → Run Z a0 n0 p l e R s m args below meth c Ψ (D' w0 w1) cells' slots' pc' (L' w0 w1) (S' w0 w1))) (b : (∀ w0 w1, F w0 w1 → Run Z a0 n0 p l e R s m args below meth c Ψ (D' w0 w1) cells' slots' pc' (L' w0 w1) (S' w0 w1)) → Run Z a0 n0 p l e R s m args below meth c Ψ D cells slots pc L S) : Run Z a0 n0 p l e R s m args below meth c Ψ D cells slots pc L S := b k
theorem Run.join3 {α0 : Type} {α1 : Type} {α2 : Type} {F : α0 → α1 → α2 → Prop} {D' : α0 → α1 → α2 → HD} {cells' slots' pc' : Nat} {L' : α0 → α1 → α2 → Array Slot} {S' : α0 → α1 → α2 → List Value} (k : (∀ w0 w1 w2, F w0 w1 w2 → Run Z a0 n0 p l e R s m args below meth c Ψ (D' w0 w1 w2) cells' slots' pc' (L' w0 w1 w2) (S' w0 w1 w2))) (b : (∀ w0 w1 w2, F w0 w1 w2 → Run Z a0 n0 p l e R s m args below meth c Ψ (D' w0 w1 w2) cells' slots' pc' (L' w0 w1 w2) (S' w0 w1 w2)) → Run Z a0 n0 p l e R s m args below meth c Ψ D cells slots pc L S) : Run Z a0 n0 p l e R s m args below meth c Ψ D cells slots pc L S := b k
theorem Run.join4 {α0 : Type} {α1 : Type} {α2 : Type} {α3 : Type} {F : α0 → α1 → α2 → α3 → Prop} {D' : α0 → α1 → α2 → α3 → HD} {cells' slots' pc' : Nat} {L' : α0 → α1 → α2 → α3 → Array Slot} {S' : α0 → α1 → α2 → α3 → List Value} (k : (∀ w0 w1 w2 w3, F w0 w1 w2 w3 → Run Z a0 n0 p l e R s m args below meth c Ψ (D' w0 w1 w2 w3) cells' slots' pc' (L' w0 w1 w2 w3) (S' w0 w1 w2 w3))) (b : (∀ w0 w1 w2 w3, F w0 w1 w2 w3 → Run Z a0 n0 p l e R s m args below meth c Ψ (D' w0 w1 w2 w3) cells' slots' pc' (L' w0 w1 w2 w3) (S' w0 w1 w2 w3)) → Run Z a0 n0 p l e R s m args below meth c Ψ D cells slots pc L S) : Run Z a0 n0 p l e R s m args below meth c Ψ D cells slots pc L S := b k
theorem Run.join5 {α0 : Type} {α1 : Type} {α2 : Type} {α3 : Type} {α4 : Type} {F : α0 → α1 → α2 → α3 → α4 → Prop} {D' : α0 → α1 → α2 → α3 → α4 → HD} {cells' slots' pc' : Nat} {L' : α0 → α1 → α2 → α3 → α4 → Array Slot} {S' : α0 → α1 → α2 → α3 → α4 → List Value} (k : (∀ w0 w1 w2 w3 w4, F w0 w1 w2 w3 w4 → Run Z a0 n0 p l e R s m args below meth c Ψ (D' w0 w1 w2 w3 w4) cells' slots' pc' (L' w0 w1 w2 w3 w4) (S' w0 w1 w2 w3 w4))) (b : (∀ w0 w1 w2 w3 w4, F w0 w1 w2 w3 w4 → Run Z a0 n0 p l e R s m args below meth c Ψ (D' w0 w1 w2 w3 w4) cells' slots' pc' (L' w0 w1 w2 w3 w4) (S' w0 w1 w2 w3 w4)) → Run Z a0 n0 p l e R s m args below meth c Ψ D cells slots pc L S) : Run Z a0 n0 p l e R s m args below meth c Ψ D cells slots pc L S := b k
theorem Run.join6 {α0 : Type} {α1 : Type} {α2 : Type} {α3 : Type} {α4 : Type} {α5 : Type} {F : α0 → α1 → α2 → α3 → α4 → α5 → Prop} {D' : α0 → α1 → α2 → α3 → α4 → α5 → HD} {cells' slots' pc' : Nat} {L' : α0 → α1 → α2 → α3 → α4 → α5 → Array Slot} {S' : α0 → α1 → α2 → α3 → α4 → α5 → List Value} (k : (∀ w0 w1 w2 w3 w4 w5, F w0 w1 w2 w3 w4 w5 → Run Z a0 n0 p l e R s m args below meth c Ψ (D' w0 w1 w2 w3 w4 w5) cells' slots' pc' (L' w0 w1 w2 w3 w4 w5) (S' w0 w1 w2 w3 w4 w5))) (b : (∀ w0 w1 w2 w3 w4 w5, F w0 w1 w2 w3 w4 w5 → Run Z a0 n0 p l e R s m args below meth c Ψ (D' w0 w1 w2 w3 w4 w5) cells' slots' pc' (L' w0 w1 w2 w3 w4 w5) (S' w0 w1 w2 w3 w4 w5)) → Run Z a0 n0 p l e R s m args below meth c Ψ D cells slots pc L S) : Run Z a0 n0 p l e R s m args below meth c Ψ D cells slots pc L S := b k
theorem Run.ldcI (K : Ctx Z y bytes maxL ret p s m meth c) {idx : Nat} {v : Int32} {pc' : Nat} (hd : decode bytes pc = .ok (.ldc idx, 2)) (hp : pc + 2 = pc') (w : (Jvm.Cond.constant y.cls idx v).before a0 Z = true) (k : Run Z a0 n0 p l e R s m args below meth c Ψ D cells slots pc' L (.int v :: S)) : Run Z a0 n0 p l e R s m args below meth c Ψ D cells slots pc L S := by
  subst hp
  intro T locs X N H
  obtain ⟨t, o, st, r⟩ := k T locs X N H
  exact ⟨t, o, X.ldcInt K.1 K.2.2.2.2.1 (mvT K.2.1 w) (g := mkF m pc L S) rfl (hb K.2.2.1 hd) _ st, r⟩
theorem Run.ldcJ (K : Ctx Z y bytes maxL ret p s m meth c) {idx : Nat} {v : Int64} {pc' : Nat} (hd : decode bytes pc = .ok (.ldc2_w idx, 3)) (hp : pc + 3 = pc') (w : (Jvm.Cond.constantLong y.cls idx v).before a0 Z = true) (k : Run Z a0 n0 p l e R s m args below meth c Ψ D cells slots pc' L (.long v :: S)) : Run Z a0 n0 p l e R s m args below meth c Ψ D cells slots pc L S := by
  subst hp
  intro T locs X N H
  obtain ⟨t, o, st, r⟩ := k T locs X N H
  exact ⟨t, o, X.ldc2Long K.1 K.2.2.2.2.1 (mvT K.2.1 w) (g := mkF m pc L S) rfl (hb K.2.2.1 hd) _ st, r⟩
theorem Run.getF (K : Ctx Z y bytes maxL ret p s m meth c) {idx i j : Nat} {O n d C : String} {a : Addr} {fs : List OFld} {v : Value} {pc' : Nat} (hd : decode bytes pc = .ok (.getfield idx, 3)) (hp : pc + 3 = pc') (w : (Jvm.Cond.fieldLink y.cls idx O n d).before a0 Z = true) (hi : D.1[i]? = some (a, C, fs)) (hj : fs[j]? = some (O, n, d, v)) (k : Run Z a0 n0 p l e R s m args below meth c Ψ D cells slots pc' L (v :: S)) : Run Z a0 n0 p l e R s m args below meth c Ψ D cells slots pc L (.ref a :: S) := by
  subst hp
  intro T locs X N H
  have F := ((H.2.1 _ (List.mem_of_getElem? hi)).2.2.1 _ (List.mem_of_getElem? hj)).1
  obtain ⟨T', X', e', st'⟩ := RoadKit.getF X K.1 K.2.1 K.2.2.2.2.1 (host := "") (Or.inl w) Via.refl rfl F (g := mkF m pc L (.ref a :: S)) rfl rfl (hb K.2.2.1 hd)
  obtain ⟨t, o, st, r⟩ := k T' locs X' N (by rw [e']; exact H)
  exact ⟨t, o, st' _ st, r⟩
theorem Run.putF (K : Ctx Z y bytes maxL ret p s m meth c) {idx i j kk : Nat} {O n d C : String} {a : Addr} {fs : List OFld} {v old : Value} {ty : FieldType} {pc' : Nat} {D' : HD} (hd : decode bytes pc = .ok (.putfield idx, 3)) (hp : pc + 3 = pc') (w : (Jvm.Cond.fieldLink y.cls idx O n d).before a0 Z = true) (wl : (Jvm.Cond.lays C O n d).before a0 Z = true ∨ ((Jvm.Cond.laysFinal C O n d).before a0 Z = true ∧ y.cls = O ∧ y.name = "<init>")) (wi : (Jvm.Cond.instantiable C kk).before a0 Z = true) (hty : parseFieldDescriptor d = some ty) (hn : narrow ty v = v) (hf : fits ty v = true) (hi : D.1[i]? = some (a, C, fs)) (hj : fs[j]? = some (O, n, d, old)) (hD : D' = (D.1.set i (a, C, fs.set j (O, n, d, v)), D.2)) (k : Run Z a0 n0 p l e R s m args below meth c Ψ D' cells slots pc' L S) : Run Z a0 n0 p l e R s m args below meth c Ψ D cells slots pc L (v :: .ref a :: S) := by
  subst hp hD
  intro T locs X N H
  have HO := H.2.1 _ (List.mem_of_getElem? hi)
  have F := (HO.2.2.1 _ (List.mem_of_getElem? hj)).1
  obtain ⟨T', h', X', e', W, st'⟩ := RoadKit.putF X K.1 K.2.1 K.2.2.2.2.1 (host := "") (Or.inl w) Via.refl rfl F HO.2.1 (wl.imp id fun q => ⟨q.1, q.2.1, K.2.2.2.2.2.1.trans q.2.2⟩) wi hty hn hf (g := mkF m pc L (v :: .ref a :: S)) rfl rfl (hb K.2.2.1 hd)
  obtain ⟨t, o, st, r⟩ := k T' _ X' (Fr.snoc X' N HO.1) (by rw [e']; exact H.put hi hj W)
  exact ⟨t, o, st' _ st, r⟩
theorem Run.newO (K : Ctx Z y bytes maxL ret p s m meth c) {idx n : Nat} {C : String} {fs : List OFld} {pc' cells' slots' : Nat} (hd : decode bytes pc = .ok (.new idx, 3)) (hp : pc + 3 = pc') (w : (Jvm.Cond.classLink y.cls idx C).before a0 Z = true) (wi : (Jvm.Cond.instantiable C n).before a0 Z = true) (wz : (Jvm.Cond.initialized C).before a0 Z = true) (F : FieldsOk Z a0 C fs) (e1 : cells + 1 = cells') (e2 : slots + n = slots') (hc : cells' ≤ R.cells) (hs : slots' ≤ R.slots) (k : ∀ a : Addr, Run Z a0 n0 p l e R s m args below meth c Ψ ((a, C, fs) :: D.1, D.2) cells' slots' pc' L (.ref a :: S)) : Run Z a0 n0 p l e R s m args below meth c Ψ D cells slots pc L S := by
  subst hp e1 e2
  intro T locs X N H
  obtain ⟨T', h', X', e', E, A, Dv, -, st'⟩ := RoadKit.newO X K.1 K.2.1 K.2.2.2.2.1 w wi wz rfl (g := mkF m pc L S) rfl (hb K.2.2.1 hd) hc hs
  obtain ⟨t, o, st, r⟩ := k T.heap.size T' locs X' N (by rw [e']; exact H.new E A F Dv)
  exact ⟨t, o, st' _ st, r⟩
theorem Run.newA (K : Ctx Z y bytes maxL ret p s m meth c) {aty : ArrayType} {ty : FieldType} {n : Int32} {vs : List Value} {cap : Nat} {pc' cells' slots' : Nat} (hd : decode bytes pc = .ok (.newarray aty, 2)) (hp : pc + 2 = pc') (hty : newarray.typeOf aty = ty) (w : (Jvm.Cond.arrayClass ty).before a0 Z = true) (hn : ¬ n < 0) (hvs : vs = List.replicate n.toNatClampNeg (defaultValue ty)) (hcap : n.toNatClampNeg ≤ cap) (hb8 : cap * 8 ≤ 536870912) (e1 : cells + 1 = cells') (e2 : slots + cap = slots') (hc : cells' ≤ R.cells) (hs : slots' ≤ R.slots) (hfd : fits ty (defaultValue ty) = true) (k : ∀ a : Addr, Run Z a0 n0 p l e R s m args below meth c Ψ (D.1, (a, ty, vs) :: D.2) cells' slots' pc' L (.ref a :: S)) : Run Z a0 n0 p l e R s m args below meth c Ψ D cells slots pc L (.int n :: S) := by
  subst hp e1 e2 hty hvs
  intro T locs X N H
  obtain ⟨T', h', cA, X', e', E, A, st'⟩ := RoadKit.newP X K.1 K.2.1 w rfl (g := mkF m pc L (.int n :: S)) rfl (hb K.2.2.1 hd) rfl hn hcap hb8 hc hs
  obtain ⟨t, o, st, r⟩ := k T.heap.size T' locs X' N (by
    rw [e']
    refine H.newArr E A ?_ ?_ ?_
    · simp [RoadKit.newA]
    · rw [List.length_replicate]; exact (back32 hn).2
    · intro v hv; rw [List.eq_of_mem_replicate hv]; exact hfd)
  exact ⟨t, o, st' _ st, r⟩
theorem Run.alen (K : Ctx Z y bytes maxL ret p s m meth c) {i : Nat} {a : Addr} {ty : FieldType} {vs : List Value} {w : Int32} {pc' : Nat} (hd : decode bytes pc = .ok (.arraylength, 1)) (hp : pc + 1 = pc') (hi : D.2[i]? = some (a, ty, vs)) (hw : vs.length.toInt32 = w) (k : Run Z a0 n0 p l e R s m args below meth c Ψ D cells slots pc' L (.int w :: S)) : Run Z a0 n0 p l e R s m args below meth c Ψ D cells slots pc L (.ref a :: S) := by
  subst hp hw
  intro T locs X N H
  obtain ⟨-, c', A, e1, -⟩ := H.2.2.1 _ (List.mem_of_getElem? hi)
  have q : c'.slots.size = vs.length := by rw [e1]; simp
  obtain ⟨t, o, st, r⟩ := k T locs X N H
  rw [← q] at st
  exact ⟨t, o, X.arraylength K.1 A.1 (State.isArrayOf_alike K.2.1.alike A.2.1) (g := mkF m pc L (.ref a :: S)) rfl rfl (hb K.2.2.1 hd) _ st, r⟩
theorem nar_byte (x : Int32) : nar .byte (x.toInt8.toInt32) = x.toInt8.toInt32 := by
  show (x.toInt8.toInt32).toInt8.toInt32 = x.toInt8.toInt32
  rw [Int8.toInt8_toInt32]
theorem own_bool {j : Int32} (h : j = (0 : Int32) ∨ j = (1 : Int32)) : nar .boolean j = j := by rcases h with rfl | rfl <;> decide
theorem in_of {vs : List Value} {q : Nat} {v : Value} {j : Int32} (hj : ¬ j < 0) (hq : j.toNatClampNeg = q) (hv : vs[q]? = some v) {c' : Cell} (e1 : c'.slots = vs.toArray) : ¬ (j < 0 ∨ c'.slots.size ≤ j.toNatClampNeg) ∧ c'.slots[j.toNatClampNeg]? = some v := by
  subst hq
  obtain ⟨li, ei⟩ := List.getElem?_eq_some_iff.mp hv
  refine ⟨fun z => z.elim hj fun z => ?_, by rw [e1]; simpa using hv⟩
  rw [e1] at z
  simp at z
  omega
theorem Run.baload (K : Ctx Z y bytes maxL ret p s m meth c) {i q : Nat} {a : Addr} {vs : List Value} {j : Int32} {v : Value} {pc' : Nat} (hd : decode bytes pc = .ok (.baload, 1)) (hp : pc + 1 = pc') (hi : D.2[i]? = some (a, .byte, vs)) (hj : ¬ j < 0) (hq : j.toNatClampNeg = q) (hv : vs[q]? = some v) (k : Run Z a0 n0 p l e R s m args below meth c Ψ D cells slots pc' L (v :: S)) : Run Z a0 n0 p l e R s m args below meth c Ψ D cells slots pc L (.int j :: .ref a :: S) := by
  subst hp
  intro T locs X N H
  obtain ⟨-, c', A, e1, -⟩ := H.2.2.1 _ (List.mem_of_getElem? hi)
  obtain ⟨u1, u2⟩ := in_of hj hq hv e1
  obtain ⟨t, o, st, r⟩ := k T locs X N H
  exact ⟨t, o, X.baloadBytes K.1 A.1 (State.isArrayOf_alike K.2.1.alike A.2.1) A.2.2 u1 u2 (g := mkF m pc L (.int j :: .ref a :: S)) rfl rfl (hb K.2.2.1 hd) _ st, r⟩
theorem Run.iaload (K : Ctx Z y bytes maxL ret p s m meth c) {i q : Nat} {a : Addr} {vs : List Value} {j : Int32} {v : Value} {pc' : Nat} (hd : decode bytes pc = .ok (.iaload, 1)) (hp : pc + 1 = pc') (hi : D.2[i]? = some (a, .int, vs)) (hj : ¬ j < 0) (hq : j.toNatClampNeg = q) (hv : vs[q]? = some v) (k : Run Z a0 n0 p l e R s m args below meth c Ψ D cells slots pc' L (v :: S)) : Run Z a0 n0 p l e R s m args below meth c Ψ D cells slots pc L (.int j :: .ref a :: S) := by
  subst hp
  intro T locs X N H
  obtain ⟨-, c', A, e1, -⟩ := H.2.2.1 _ (List.mem_of_getElem? hi)
  obtain ⟨u1, u2⟩ := in_of hj hq hv e1
  obtain ⟨t, o, st, r⟩ := k T locs X N H
  exact ⟨t, o, X.iaload K.1 A.1 (State.isArrayOf_alike K.2.1.alike A.2.1) A.2.2 u1 u2 (g := mkF m pc L (.int j :: .ref a :: S)) rfl rfl (hb K.2.2.1 hd) _ st, r⟩
theorem Run.laload (K : Ctx Z y bytes maxL ret p s m meth c) {i q : Nat} {a : Addr} {vs : List Value} {j : Int32} {v : Value} {pc' : Nat} (hd : decode bytes pc = .ok (.laload, 1)) (hp : pc + 1 = pc') (hi : D.2[i]? = some (a, .long, vs)) (hj : ¬ j < 0) (hq : j.toNatClampNeg = q) (hv : vs[q]? = some v) (k : Run Z a0 n0 p l e R s m args below meth c Ψ D cells slots pc' L (v :: S)) : Run Z a0 n0 p l e R s m args below meth c Ψ D cells slots pc L (.int j :: .ref a :: S) := by
  subst hp
  intro T locs X N H
  obtain ⟨-, c', A, e1, -⟩ := H.2.2.1 _ (List.mem_of_getElem? hi)
  obtain ⟨u1, u2⟩ := in_of hj hq hv e1
  obtain ⟨t, o, st, r⟩ := k T locs X N H
  exact ⟨t, o, X.laload K.1 A.1 (State.isArrayOf_alike K.2.1.alike A.2.1) A.2.2 u1 u2 (g := mkF m pc L (.int j :: .ref a :: S)) rfl rfl (hb K.2.2.1 hd) _ st, r⟩
theorem Run.zaload (K : Ctx Z y bytes maxL ret p s m meth c) {i q : Nat} {a : Addr} {vs : List Value} {j : Int32} {v : Value} {pc' : Nat} (hd : decode bytes pc = .ok (.baload, 1)) (hp : pc + 1 = pc') (hi : D.2[i]? = some (a, .boolean, vs)) (hj : ¬ j < 0) (hq : j.toNatClampNeg = q) (hv : vs[q]? = some v) (k : Run Z a0 n0 p l e R s m args below meth c Ψ D cells slots pc' L (v :: S)) : Run Z a0 n0 p l e R s m args below meth c Ψ D cells slots pc L (.int j :: .ref a :: S) := by
  subst hp
  intro T locs X N H
  obtain ⟨-, c', A, e1, -⟩ := H.2.2.1 _ (List.mem_of_getElem? hi)
  obtain ⟨u1, u2⟩ := in_of hj hq hv e1
  obtain ⟨t, o, st, r⟩ := k T locs X N H
  exact ⟨t, o, X.baloadBooleans K.1 A.1 (State.isArrayOf_alike K.2.1.alike A.2.1) A.2.2 u1 u2 (g := mkF m pc L (.int j :: .ref a :: S)) rfl rfl (hb K.2.2.1 hd) _ st, r⟩
theorem Run.caload (K : Ctx Z y bytes maxL ret p s m meth c) {i q : Nat} {a : Addr} {vs : List Value} {j : Int32} {v : Value} {pc' : Nat} (hd : decode bytes pc = .ok (.caload, 1)) (hp : pc + 1 = pc') (hi : D.2[i]? = some (a, .char, vs)) (hj : ¬ j < 0) (hq : j.toNatClampNeg = q) (hv : vs[q]? = some v) (k : Run Z a0 n0 p l e R s m args below meth c Ψ D cells slots pc' L (v :: S)) : Run Z a0 n0 p l e R s m args below meth c Ψ D cells slots pc L (.int j :: .ref a :: S) := by
  subst hp
  intro T locs X N H
  obtain ⟨-, c', A, e1, -⟩ := H.2.2.1 _ (List.mem_of_getElem? hi)
  obtain ⟨u1, u2⟩ := in_of hj hq hv e1
  obtain ⟨t, o, st, r⟩ := k T locs X N H
  exact ⟨t, o, X.caload K.1 A.1 (State.isArrayOf_alike K.2.1.alike A.2.1) A.2.2 u1 u2 (g := mkF m pc L (.int j :: .ref a :: S)) rfl rfl (hb K.2.2.1 hd) _ st, r⟩
theorem Run.bastore (K : Ctx Z y bytes maxL ret p s m meth c) {i q : Nat} {a : Addr} {vs : List Value} {j : Int32} {x : Int32} {v : Value} {pc' : Nat} {D' : HD} (hd : decode bytes pc = .ok (.bastore, 1)) (hp : pc + 1 = pc') (hi : D.2[i]? = some (a, .byte, vs)) (hj : ¬ j < 0) (hq : j.toNatClampNeg = q) (hv : vs[q]? = some v) (hD : D' = (D.1, D.2.set i (a, .byte, vs.set q (.int x.toInt8.toInt32)))) (k : Run Z a0 n0 p l e R s m args below meth c Ψ D' cells slots pc' L S) : Run Z a0 n0 p l e R s m args below meth c Ψ D cells slots pc L (.int x :: .int j :: .ref a :: S) := by
  subst hp hD
  intro T locs X N H
  have HA := H.2.2.1 _ (List.mem_of_getElem? hi)
  have g1 := HA.1
  obtain ⟨-, c', A, e1, -⟩ := HA
  obtain ⟨u1, u2⟩ := in_of hj hq hv e1
  obtain ⟨T', h', X', e', W, st'⟩ := stB X K.1 K.2.1 rfl A u1 (g := mkF m pc L (.int x :: .int j :: .ref a :: S)) rfl rfl (hb K.2.2.1 hd)
  rw [hq] at W X'
  obtain ⟨t, o, st, r⟩ := k T' _ X' (Fr.snoc X' N g1) (by rw [e']; exact H.store hi (fits_nar_byte x) W)
  exact ⟨t, o, st' _ st, r⟩
theorem Run.iastore (K : Ctx Z y bytes maxL ret p s m meth c) {i q : Nat} {a : Addr} {vs : List Value} {j : Int32} {x : Int32} {v : Value} {pc' : Nat} {D' : HD} (hd : decode bytes pc = .ok (.iastore, 1)) (hp : pc + 1 = pc') (hi : D.2[i]? = some (a, .int, vs)) (hj : ¬ j < 0) (hq : j.toNatClampNeg = q) (hv : vs[q]? = some v) (hD : D' = (D.1, D.2.set i (a, .int, vs.set q (.int x)))) (k : Run Z a0 n0 p l e R s m args below meth c Ψ D' cells slots pc' L S) : Run Z a0 n0 p l e R s m args below meth c Ψ D cells slots pc L (.int x :: .int j :: .ref a :: S) := by
  subst hp hD
  intro T locs X N H
  have HA := H.2.2.1 _ (List.mem_of_getElem? hi)
  have g1 := HA.1
  obtain ⟨-, c', A, e1, -⟩ := HA
  obtain ⟨u1, u2⟩ := in_of hj hq hv e1
  obtain ⟨T', h', X', e', W, st'⟩ := stI X K.1 K.2.1 rfl A u1 (g := mkF m pc L (.int x :: .int j :: .ref a :: S)) rfl rfl (hb K.2.2.1 hd)
  rw [hq] at W X'
  obtain ⟨t, o, st, r⟩ := k T' _ X' (Fr.snoc X' N g1) (by rw [e']; exact H.store hi (rfl) W)
  exact ⟨t, o, st' _ st, r⟩
theorem Run.lastore (K : Ctx Z y bytes maxL ret p s m meth c) {i q : Nat} {a : Addr} {vs : List Value} {j : Int32} {x : Int64} {v : Value} {pc' : Nat} {D' : HD} (hd : decode bytes pc = .ok (.lastore, 1)) (hp : pc + 1 = pc') (hi : D.2[i]? = some (a, .long, vs)) (hj : ¬ j < 0) (hq : j.toNatClampNeg = q) (hv : vs[q]? = some v) (hD : D' = (D.1, D.2.set i (a, .long, vs.set q (.long x)))) (k : Run Z a0 n0 p l e R s m args below meth c Ψ D' cells slots pc' L S) : Run Z a0 n0 p l e R s m args below meth c Ψ D cells slots pc L (.long x :: .int j :: .ref a :: S) := by
  subst hp hD
  intro T locs X N H
  have HA := H.2.2.1 _ (List.mem_of_getElem? hi)
  have g1 := HA.1
  obtain ⟨-, c', A, e1, -⟩ := HA
  obtain ⟨u1, u2⟩ := in_of hj hq hv e1
  obtain ⟨T', h', X', e', W, st'⟩ := stJ X K.1 K.2.1 rfl A u1 (g := mkF m pc L (.long x :: .int j :: .ref a :: S)) rfl rfl (hb K.2.2.1 hd)
  rw [hq] at W X'
  obtain ⟨t, o, st, r⟩ := k T' _ X' (Fr.snoc X' N g1) (by rw [e']; exact H.store hi (rfl) W)
  exact ⟨t, o, st' _ st, r⟩
theorem Run.bring (i j : Nat) {D' : HD} (hD : D' = (bringL i D.1, bringL j D.2)) (k : Run Z a0 n0 p l e R s m args below meth c Ψ D' cells slots pc L S) : Run Z a0 n0 p l e R s m args below meth c Ψ D cells slots pc L S := by
  subst hD
  intro T locs X N H
  exact k T locs X N (H.perm (bringL_perm i _) (bringL_perm j _))
theorem Run.initO (K : Ctx Z y bytes maxL ret p s m meth c) {idx : Nat} {a : Addr} {W : Nat} {pc' : Nat} (hd : decode bytes pc = .ok (.invokespecial idx, 3)) (hp : pc + 3 = pc') (w1 : (Jvm.Cond.methodLink y.cls idx Lib.objectInit).before a0 Z = true) (w2 : (Jvm.Cond.instanceMethod Lib.objectInit).before a0 Z = true) (w3 : (Jvm.Cond.code Lib.objectInit ⟨#[0xb1]⟩ 1 none).before a0 Z = true) (hsz : L.size = maxL) (hf : 1 ≤ R.frames) (hW : (S.map fun v => v.category).sum = W) (hl : W + 12 ≤ R.locals) (k : Run Z a0 n0 p l e R s m args below meth c Ψ D cells slots pc' L S) : Run Z a0 n0 p l e R s m args below meth c Ψ D cells slots pc L (.ref a :: S) := by
  subst hp
  intro T locs X N H
  obtain ⟨T', X', e', st'⟩ := RoadKit.initO X K.1 K.2.1 K.2.2.2.2.1 w1 w2 w3 rfl (g := mkF m pc L (.ref a :: S)) rfl (by rw [K.2.2.2.1]; exact hsz) rfl (hb K.2.2.1 hd) hf (W := W) (by show 2 * 0 + _ ≤ _; rw [hW]; omega) hl
  obtain ⟨t, o, st, r⟩ := k T' locs X' N (by rw [e']; exact H)
  exact ⟨t, o, st' _ st, r⟩
theorem Run.callS (K : Ctx Z y bytes maxL ret p s m meth c) {idx W : Nat} {z : MethodName} {bs : ByteArray} {mL : Nat} {rt : Option FieldType} {rm : Room} {Φ : Option Value → HD → Prop} {argsL rest : List Value} {sg : MethodDescriptor} {cells' slots' pc' : Nat} (hd : decode bytes pc = .ok (.invokestatic idx, 3)) (hp : pc + 3 = pc') (w1 : (Jvm.Cond.methodLink y.cls idx z).before a0 Z = true) (w2 : (Jvm.Cond.static z).before a0 Z = true) (w3 : (Jvm.Cond.initialized z.cls).before a0 Z = true) (w4 : (Jvm.Cond.code z bs mL rt).before a0 Z = true) (hz : z.cls ≠ "java/lang/invoke/MethodHandle" ∧ z.cls ≠ "java/lang/invoke/VarHandle") (C : Con l Z a0 n0 [] z bs mL rt rm argsL.toArray D Φ) (hS : S = argsL.reverse ++ rest) (hsz : L.size = maxL) (hsg : parseMethodDescriptor z.desc = some sg) (hlen : argsL.length = sg.parameters.length) (hW : (rest.map fun v => v.category).sum = W) (hf : rm.frames + 1 ≤ R.frames) (hl : W + (mL + 11) + rm.locals ≤ R.locals) (e1 : cells + rm.cells = cells') (e2 : slots + rm.slots = slots') (hc : cells' ≤ R.cells) (hs : slots' ≤ R.slots) (k : ∀ (v : Option Value) (D' : HD), Φ v D' → Run Z a0 n0 p l e R s m args below meth c Ψ D' cells' slots' pc' L (v.toList ++ rest)) : Run Z a0 n0 p l e R s m args below meth c Ψ D cells slots pc L S := by
  subst hp e1 e2 hS
  intro T locs X N H
  have B := backOf (R := R) (p := p) (e := e) (below := below) (s := s) (args := args) (len := 3) (W := W) (Q := fun v h L => Fr n0 L ∧ ∃ D', Φ v D' ∧ Heaped Z a0 n0 h D') (C T.heap H) K.2.1 w4 w3 hf hl
  obtain ⟨v, _, ⟨T', L', k', n'⟩, -, X', ⟨Lc, hQ, l', y', z'⟩, st'⟩ := Jvm.LawKit.callS X K.1 (y := z) K.2.2.2.2.1 (mvT K.2.1 w1) (mvT K.2.1 w2) (mvT K.2.1 w3) (mvT K.2.1 w4) hz B (g := mkF m pc L (argsL.reverse ++ rest)) rfl (by rw [K.2.2.2.1]; exact hsz) (argsL := argsL) (rest := rest) (fun sig h => by cases hsg.symm.trans h; exact hlen) rfl (by show 2 * 0 + _ ≤ _; rw [hW]; omega) (hb K.2.2.1 hd) (fun _ _ => ⟨rfl, rfl, hc, hs⟩)
  dsimp only [Pt.U, Pt.locs, Pt.cells, Pt.slots] at X' st' hQ l' y' z'
  subst l' y' z'
  obtain ⟨N', D', hΦ, H'⟩ := hQ
  obtain ⟨t, o, st, r⟩ := k v D' hΦ T' _ X' (Fr.app N N') H'
  exact ⟨t, o, st' _ st, r⟩
theorem Run.callI (K : Ctx Z y bytes maxL ret p s m meth c) {idx W : Nat} {z : MethodName} {bs : ByteArray} {mL : Nat} {rm : Room} {Φ : Option Value → HD → Prop} {argsL rest : List Value} {sg : MethodDescriptor} {cells' slots' pc' : Nat} {a : Addr} (hd : decode bytes pc = .ok (.invokespecial idx, 3)) (hp : pc + 3 = pc') (hz1 : z.name = "<init>") (w1 : (Jvm.Cond.methodLink y.cls idx z).before a0 Z = true) (w2 : (Jvm.Cond.instanceMethod z).before a0 Z = true) (w3 : (Jvm.Cond.initialized z.cls).before a0 Z = true) (w4 : (Jvm.Cond.code z bs mL none).before a0 Z = true) (hz : z.cls ≠ "java/lang/invoke/MethodHandle" ∧ z.cls ≠ "java/lang/invoke/VarHandle") (C : Con l Z a0 n0 [] z bs mL none rm (.ref a :: argsL).toArray D Φ) (hS : S = argsL.reverse ++ .ref a :: rest) (hsz : L.size = maxL) (hsg : parseMethodDescriptor z.desc = some sg) (hlen : argsL.length = sg.parameters.length) (hW : (rest.map fun v => v.category).sum = W) (hf : rm.frames + 1 ≤ R.frames) (hl : W + (mL + 11) + rm.locals ≤ R.locals) (e1 : cells + rm.cells = cells') (e2 : slots + rm.slots = slots') (hc : cells' ≤ R.cells) (hs : slots' ≤ R.slots) (k : ∀ (v : Option Value) (D' : HD), Φ v D' → Run Z a0 n0 p l e R s m args below meth c Ψ D' cells' slots' pc' L (v.toList ++ rest)) : Run Z a0 n0 p l e R s m args below meth c Ψ D cells slots pc L S := by
  subst hp e1 e2 hS
  intro T locs X N H
  have B := backOf (R := R) (p := p) (e := e) (below := below) (s := s) (args := args) (len := 3) (W := W) (Q := fun v h L => Fr n0 L ∧ ∃ D', Φ v D' ∧ Heaped Z a0 n0 h D') (C T.heap H) K.2.1 w4 w3 hf hl
  obtain ⟨v, _, ⟨T', L', k', n'⟩, -, X', ⟨Lc, hQ, l', y', z'⟩, st'⟩ := X.specialBack K.1 (y := z) hz1 K.2.2.2.2.1 (mvT K.2.1 w1) (mvT K.2.1 w2) (mvT K.2.1 w4) hz B (g := mkF m pc L (argsL.reverse ++ .ref a :: rest)) rfl (by rw [K.2.2.2.1]; exact hsz) (Steps.refl _) (a := a) (argsL := argsL) (rest := rest) (fun sig h => by cases hsg.symm.trans h; exact hlen) rfl (by show 2 * 0 + _ ≤ _; rw [hW]; omega) (hb K.2.2.1 hd) (fun _ _ => ⟨rfl, rfl, hc, hs⟩)
  dsimp only [Pt.U, Pt.locs, Pt.cells, Pt.slots] at X' st' hQ l' y' z'
  subst l' y' z'
  obtain ⟨N', D', hΦ, H'⟩ := hQ
  obtain ⟨t, o, st, r⟩ := k v D' hΦ T' _ X' (Fr.app N N') H'
  exact ⟨t, o, st'.trans st, r⟩
theorem Run.callV (K : Ctx Z y bytes maxL ret p s m meth c) {idx W : Nat} {z : MethodName} {bs : ByteArray} {mL : Nat} {rt : Option FieldType} {rm : Room} {Φ : Option Value → HD → Prop} {argsL rest : List Value} {sg : MethodDescriptor} {cells' slots' pc' : Nat} {a : Addr} {Cn : String} {fs : List OFld} {i : Nat} (hd : decode bytes pc = .ok (.invokevirtual idx, 3)) (hp : pc + 3 = pc') (w1 : (Jvm.Cond.methodLink y.cls idx z).before a0 Z = true) (w5 : (Jvm.Cond.declares z).before a0 Z = true) (w6 : (Jvm.Cond.selects Cn z z).before a0 Z = true) (w2 : (Jvm.Cond.instanceMethod z).before a0 Z = true) (w3 : (Jvm.Cond.initialized z.cls).before a0 Z = true) (w4 : (Jvm.Cond.code z bs mL rt).before a0 Z = true) (hz : z.cls ≠ "java/lang/invoke/MethodHandle" ∧ z.cls ≠ "java/lang/invoke/VarHandle") (hi : D.1[i]? = some (a, Cn, fs)) (C : Con l Z a0 n0 [] z bs mL rt rm (.ref a :: argsL).toArray D Φ) (hS : S = argsL.reverse ++ .ref a :: rest) (hsz : L.size = maxL) (hsg : parseMethodDescriptor z.desc = some sg) (hlen : argsL.length = sg.parameters.length) (hW : (rest.map fun v => v.category).sum = W) (hf : rm.frames + 1 ≤ R.frames) (hl : W + (mL + 11) + rm.locals ≤ R.locals) (e1 : cells + rm.cells = cells') (e2 : slots + rm.slots = slots') (hc : cells' ≤ R.cells) (hs : slots' ≤ R.slots) (k : ∀ (v : Option Value) (D' : HD), Φ v D' → Run Z a0 n0 p l e R s m args below meth c Ψ D' cells' slots' pc' L (v.toList ++ rest)) : Run Z a0 n0 p l e R s m args below meth c Ψ D cells slots pc L S := by
  subst hp e1 e2 hS
  intro T locs X N H
  have B := backOf (R := R) (p := p) (e := e) (below := below) (s := s) (args := args) (len := 3) (W := W) (Q := fun v h L => Fr n0 L ∧ ∃ D', Φ v D' ∧ Heaped Z a0 n0 h D') (C T.heap H) K.2.1 w4 w3 hf hl
  obtain ⟨cq, kq, q1, q2, q3⟩ := isOf (T := T) K.2.1 rfl (H.2.1 _ (List.mem_of_getElem? hi)).2.1
  obtain ⟨v, _, ⟨T', L', k', n'⟩, -, X', ⟨Lc, hQ, l', y', z'⟩, st'⟩ := X.virtualBack K.1 (y := z) (z := z) K.2.2.2.2.1 (mvT K.2.1 w1) (mvT K.2.1 w5) (notFace_of_selects (args := #[]) (mvT K.2.1 w6)) (mvT K.2.1 w6) (mvT K.2.1 w2) hz B q1 q3 (g := mkF m pc L (argsL.reverse ++ .ref a :: rest)) rfl (by rw [K.2.2.2.1]; exact hsz) (Steps.refl _) (argsL := argsL) (rest := rest) (fun sig h => by cases hsg.symm.trans h; exact hlen) rfl (by show 2 * 0 + _ ≤ _; rw [hW]; omega) (hb K.2.2.1 hd) (fun _ _ => ⟨rfl, rfl, hc, hs⟩)
  dsimp only [Pt.U, Pt.locs, Pt.cells, Pt.slots] at X' st' hQ l' y' z'
  subst l' y' z'
  obtain ⟨N', D', hΦ, H'⟩ := hQ
  obtain ⟨t, o, st, r⟩ := k v D' hΦ T' _ X' (Fr.app N N') H'
  exact ⟨t, o, st'.trans st, r⟩
theorem Run.callP (K : Ctx Z y bytes maxL ret p s m meth c) {idx W : Nat} {z : MethodName} {bs : ByteArray} {mL : Nat} {rt : Option FieldType} {rm : Room} {Φ : Option Value → HD → Prop} {argsL rest : List Value} {sg : MethodDescriptor} {cells' slots' pc' : Nat} {a : Addr} {Cn C2 : String} {x2 z2 : MethodName} {fs : List OFld} {i : Nat} (hd : decode bytes pc = .ok (.invokevirtual idx, 3)) (hp : pc + 3 = pc') (w1 : (Jvm.Cond.methodLink y.cls idx z).before a0 Z = true) (w5 : (Jvm.Cond.privateMethod z).before a0 Z = true) (w6 : (Jvm.Cond.selects C2 x2 z2).before a0 Z = true) (hzz : z2.cls = z.cls) (w2 : (Jvm.Cond.instanceMethod z).before a0 Z = true) (w3 : (Jvm.Cond.initialized z.cls).before a0 Z = true) (w4 : (Jvm.Cond.code z bs mL rt).before a0 Z = true) (hz : z.cls ≠ "java/lang/invoke/MethodHandle" ∧ z.cls ≠ "java/lang/invoke/VarHandle") (hi : D.1[i]? = some (a, Cn, fs)) (C : Con l Z a0 n0 [] z bs mL rt rm (.ref a :: argsL).toArray D Φ) (hS : S = argsL.reverse ++ .ref a :: rest) (hsz : L.size = maxL) (hsg : parseMethodDescriptor z.desc = some sg) (hlen : argsL.length = sg.parameters.length) (hW : (rest.map fun v => v.category).sum = W) (hf : rm.frames + 1 ≤ R.frames) (hl : W + (mL + 11) + rm.locals ≤ R.locals) (e1 : cells + rm.cells = cells') (e2 : slots + rm.slots = slots') (hc : cells' ≤ R.cells) (hs : slots' ≤ R.slots) (k : ∀ (v : Option Value) (D' : HD), Φ v D' → Run Z a0 n0 p l e R s m args below meth c Ψ D' cells' slots' pc' L (v.toList ++ rest)) : Run Z a0 n0 p l e R s m args below meth c Ψ D cells slots pc L S := by
  subst hp e1 e2 hS
  intro T locs X N H
  have B := backOf (R := R) (p := p) (e := e) (below := below) (s := s) (args := args) (len := 3) (W := W) (Q := fun v h L => Fr n0 L ∧ ∃ D', Φ v D' ∧ Heaped Z a0 n0 h D') (C T.heap H) K.2.1 w4 w3 hf hl
  obtain ⟨cell, hcell, hobj⟩ := (H.2.1 _ (List.mem_of_getElem? hi)).2.1.cell
  obtain ⟨mk, methM, hnamed, hmethM, hstM, habM⟩ := Cond.instanceMethod_spec (args := args) (mvT K.2.1 w2)
  obtain ⟨methM', cM, hmethM', -, -, -, -, -, -, hsigM⟩ := Cond.code_spec (args := args) hnamed (mvT K.2.1 w4)
  cases hmethM.symm.trans hmethM'
  obtain ⟨c2, r2, m2, -, -, q3, -, kP, hkP, hkPi⟩ := Cond.selects_spec (mvT (args := args) K.2.1 w6)
  have ids : m2.cls = mk.cls := by
    have q1 := findClass_of_methodNamed q3
    have q2 := findClass_of_methodNamed hnamed
    rw [hzz] at q1
    exact Option.some.inj (q1.symm.trans q2)
  rw [ids] at hkP
  have hpr := Cond.privateMethod_at (mvP (args := args) K.2.1 w5) mk methM hnamed hmethM
  obtain ⟨vm₁, X₁, st₁⟩ := X.invokevirtual K.1 K.2.2.2.2.1 (mvT K.2.1 w1) hnamed hmethM hstM hkP hkPi hz hcell hobj (selectMethod_private hmethM hpr) hmethM habM hkP hkPi (g := mkF m pc L (argsL.reverse ++ .ref a :: rest)) rfl (argsL := argsL) (rest := rest) (by cases hsg.symm.trans hsigM; exact hlen) rfl (hb K.2.2.1 hd)
  obtain ⟨v, ⟨T', L', k', n'⟩, X', ⟨Lc, hQ, l', y', z'⟩, st'⟩ := B m meth c ⟨T.setVm vm₁, locs, cells, slots⟩ (mkF m pc L rest) (.invokevirtual idx) mk (.ref a :: argsL).toArray X₁ rfl (by show L.size = c.maxLocals; rw [K.2.2.2.1]; exact hsz) (hb K.2.2.1 hd) (by show 2 * 0 + _ ≤ _; rw [hW]; omega) (X₁.named hnamed) ⟨rfl, rfl, hc, hs⟩
  dsimp only [Pt.U, Pt.locs, Pt.cells, Pt.slots] at X' st' hQ l' y' z'
  subst l' y' z'
  obtain ⟨N', D', hΦ, H'⟩ := hQ
  obtain ⟨t, o, st, r⟩ := k v D' hΦ T' _ X' (Fr.app N N') H'
  exact ⟨t, o, (st₁ _ fun acts => by rw [doInvoke_state]; exact Steps.refl _).trans (st'.trans st), r⟩
theorem Run.retV (K : Ctx Z y bytes maxL ret p s m meth c)  (hd : decode bytes pc = .ok (.return_, 1)) (hret : ret = none) (hc : cells ≤ R.cells) (hs : slots ≤ R.slots) (q : Ψ none D) : Run Z a0 n0 p l e R s m args below meth c Ψ D cells slots pc L [] := by
  intro T locs X N H
  obtain ⟨fs, hr, hrun, hended, hW, hsame⟩ := X.leave (v := none) (fun _ => rfl) K.2.2.2.2.2.2.2
  exact ⟨_, _, X.returnOut K.1 (K.2.2.2.2.2.2.1.trans hret) (hb K.2.2.1 hd) hr, hrun, hended, _, _, rfl, ⟨N, D, q, H⟩, ⟨_, rfl⟩, hW, hsame.mono hc hs⟩
theorem Run.retI (K : Ctx Z y bytes maxL ret p s m meth c) {x : Int32} (hd : decode bytes pc = .ok (.ireturn, 1)) (hret : ret = some .int) (hc : cells ≤ R.cells) (hs : slots ≤ R.slots) (q : Ψ (some (.int x)) D) : Run Z a0 n0 p l e R s m args below meth c Ψ D cells slots pc L [.int x] := by
  intro T locs X N H
  obtain ⟨fs, hr, hrun, hended, hW, hsame⟩ := X.leave (v := (some (.int x))) (fun h => by rw [K.2.2.2.2.2.2.1, hret] at h; cases h) K.2.2.2.2.2.2.2
  exact ⟨_, _, X.ireturnOut K.1 (K.2.2.2.2.2.2.1.trans hret) rfl (Or.inl rfl) (hb K.2.2.1 hd) hr, hrun, hended, _, _, rfl, ⟨N, D, q, H⟩, ⟨_, rfl⟩, hW, hsame.mono hc hs⟩
theorem Run.retJ (K : Ctx Z y bytes maxL ret p s m meth c) {x : Int64} (hd : decode bytes pc = .ok (.lreturn, 1)) (hret : ret = some .long) (hc : cells ≤ R.cells) (hs : slots ≤ R.slots) (q : Ψ (some (.long x)) D) : Run Z a0 n0 p l e R s m args below meth c Ψ D cells slots pc L [.long x] := by
  intro T locs X N H
  obtain ⟨fs, hr, hrun, hended, hW, hsame⟩ := X.leave (v := (some (.long x))) (fun h => by rw [K.2.2.2.2.2.2.1, hret] at h; cases h) K.2.2.2.2.2.2.2
  exact ⟨_, _, X.lreturnOut K.1 (K.2.2.2.2.2.2.1.trans hret) (hb K.2.2.1 hd) hr, hrun, hended, _, _, rfl, ⟨N, D, q, H⟩, ⟨_, rfl⟩, hW, hsame.mono hc hs⟩
theorem Run.retN (K : Ctx Z y bytes maxL ret p s m meth c) {x w : Int32} {t : FieldType} (hd : decode bytes pc = .ok (.ireturn, 1)) (hret : ret = some t) (ht : t = .boolean ∨ t = .byte ∨ t = .char ∨ t = .short) (hw : nar t x = w) (hc : cells ≤ R.cells) (hs : slots ≤ R.slots) (q : Ψ (some (.int w)) D) : Run Z a0 n0 p l e R s m args below meth c Ψ D cells slots pc L [.int x] := by
  intro T locs X N H
  obtain ⟨fs, hr, hrun, hended, hW, hsame⟩ := X.leave (v := (some (.int w))) (fun h => by rw [K.2.2.2.2.2.2.1, hret] at h; cases h) K.2.2.2.2.2.2.2
  exact ⟨_, _, RoadKit.retN X K.1 (K.2.2.2.2.2.2.1.trans hret) ht (hb K.2.2.1 hd) (hw ▸ hr), hrun, hended, _, _, rfl, ⟨N, D, q, H⟩, ⟨_, rfl⟩, hW, hsame.mono hc hs⟩
theorem Run.retA (K : Ctx Z y bytes maxL ret p s m meth c) {x : Value} {t : FieldType} (hd : decode bytes pc = .ok (.areturn, 1)) (hret : ret = some t) (ht : t.isReference = true) (hx : x.isRef = true) (hc : cells ≤ R.cells) (hs : slots ≤ R.slots) (q : Ψ (some x) D) : Run Z a0 n0 p l e R s m args below meth c Ψ D cells slots pc L [x] := by
  intro T locs X N H
  obtain ⟨fs, hr, hrun, hended, hW, hsame⟩ := X.leave (v := (some x)) (fun h => by rw [K.2.2.2.2.2.2.1, hret] at h; cases h) K.2.2.2.2.2.2.2
  exact ⟨_, _, X.areturnOut K.1 hx (K.2.2.2.2.2.2.1.trans hret) ht (hb K.2.2.1 hd) hr, hrun, hended, _, _, rfl, ⟨N, D, q, H⟩, ⟨_, rfl⟩, hW, hsame.mono hc hs⟩
end Runs
end Jvm.Own

namespace Jvm.Pilot.@@N@@
open Jvm Jvm.ClassFile Sem Op Lib Jvm.Free Jvm.Stand Jvm.LawKit Jvm.RoadKit Jvm.Own Bundle Jvm.Pilot.@@N@@.Jvm.D
def own_mod (p : Int32) (n : Nat) : Nat := ((p &&& (2147483647 : Int32)).toInt % n).toNat
theorem own_m31 (p : Int32) : 0 ≤ (p &&& (2147483647 : Int32)).toInt := by
  rw [c_mask p (2147483647 : Int32) 31 (by decide) (by decide)]
  exact Int.emod_nonneg _ (by decide)
theorem own_modL (p : Int32) (n : Nat) : own_mod p (n + 1) ≤ n := by
  unfold own_mod
  have h1 := Int.emod_nonneg (p &&& (2147483647 : Int32)).toInt (show ((n + 1 : Nat) : Int) ≠ 0 by omega)
  have h2 := Int.emod_lt_of_pos (p &&& (2147483647 : Int32)).toInt (show (0 : Int) < ((n + 1 : Nat) : Int) by omega)
  omega
theorem own_modE (p N : Int32) (n : Nat) (hN : N.toInt = n) (h : 0 < n) : (p &&& (2147483647 : Int32)) % N = Int32.ofNat (own_mod p n) := by
  apply Int32.toInt_inj.mp
  have h0 := own_m31 p
  have h1 := Int.emod_nonneg (p &&& (2147483647 : Int32)).toInt (show (n : Int) ≠ 0 by omega)
  have h2 := Int.emod_lt_of_pos (p &&& (2147483647 : Int32)).toInt (show (0 : Int) < (n : Int) by omega)
  have r := rng32 N
  rw [Int32.toInt_mod, hN, Int.tmod_eq_emod_of_nonneg h0, Int32.toInt_ofNat_small (by unfold own_mod; omega)]
  unfold own_mod
  omega
def own_sorted (x0 x1 x2 x3 : Int64) : Prop := x0.toInt ≤ x1.toInt ∧ x1.toInt ≤ x2.toInt ∧ x2.toInt ≤ x3.toInt
theorem own_mn {a b j : Int64} (h : ((b < a) ∧ j = b) ∨ ((¬ (b < a)) ∧ j = a)) : j.toInt ≤ a.toInt ∧ j.toInt ≤ b.toInt ∧ (j.toInt = a.toInt ∨ j.toInt = b.toInt) := by
  rw [Int64.lt_iff_toInt_lt] at h
  rcases h with ⟨q, rfl⟩ | ⟨q, rfl⟩ <;> omega
theorem own_mx {a b j : Int64} (h : ((a < b) ∧ j = b) ∨ ((¬ (a < b)) ∧ j = a)) : a.toInt ≤ j.toInt ∧ b.toInt ≤ j.toInt ∧ (j.toInt = a.toInt ∨ j.toInt = b.toInt) := by
  rw [Int64.lt_iff_toInt_lt] at h
  rcases h with ⟨q, rfl⟩ | ⟨q, rfl⟩ <;> omega
theorem own_net {a b c d s0 s1 s2 s3 x0 t2 t1 x3 x1 x2 : Int64} (h0 : ((b < a) ∧ s0 = b) ∨ ((¬ (b < a)) ∧ s0 = a)) (h1 : ((a < b) ∧ s1 = b) ∨ ((¬ (a < b)) ∧ s1 = a)) (h2 : ((d < c) ∧ s2 = d) ∨ ((¬ (d < c)) ∧ s2 = c)) (h3 : ((c < d) ∧ s3 = d) ∨ ((¬ (c < d)) ∧ s3 = c))
    (h4 : ((s2 < s0) ∧ x0 = s2) ∨ ((¬ (s2 < s0)) ∧ x0 = s0)) (h5 : ((s0 < s2) ∧ t2 = s2) ∨ ((¬ (s0 < s2)) ∧ t2 = s0)) (h6 : ((s3 < s1) ∧ t1 = s3) ∨ ((¬ (s3 < s1)) ∧ t1 = s1)) (h7 : ((s1 < s3) ∧ x3 = s3) ∨ ((¬ (s1 < s3)) ∧ x3 = s1))
    (h8 : ((t2 < t1) ∧ x1 = t2) ∨ ((¬ (t2 < t1)) ∧ x1 = t1)) (h9 : ((t1 < t2) ∧ x2 = t2) ∨ ((¬ (t1 < t2)) ∧ x2 = t1)) : own_sorted x0 x1 x2 x3 := by
  obtain ⟨a1, a2, a3⟩ := own_mn h0
  obtain ⟨b1, b2, b3⟩ := own_mx h1
  obtain ⟨c1, c2, c3⟩ := own_mn h2
  obtain ⟨d1, d2, d3⟩ := own_mx h3
  obtain ⟨e1, e2, e3⟩ := own_mn h4
  obtain ⟨f1, f2, f3⟩ := own_mx h5
  obtain ⟨g1, g2, g3⟩ := own_mn h6
  obtain ⟨i1, i2, i3⟩ := own_mx h7
  obtain ⟨j1, j2, j3⟩ := own_mn h8
  obtain ⟨k1, k2, k3⟩ := own_mx h9
  have p1 : s0.toInt ≤ s1.toInt := by omega
  have p2 : s2.toInt ≤ s3.toInt := by omega
  clear a1 a2 a3 b1 b2 b3 c1 c2 c3 d1 d2 d3 h0 h1 h2 h3
  have q1 : x0.toInt ≤ t1.toInt := by rcases g3 with z | z <;> omega
  have q2 : x0.toInt ≤ t2.toInt := by omega
  have q3 : t1.toInt ≤ x3.toInt := by omega
  have q4 : t2.toInt ≤ x3.toInt := by rcases f3 with z | z <;> omega
  refine ⟨?_, by omega, ?_⟩
  · rcases j3 with z | z <;> omega
  · rcases k3 with z | z <;> omega
theorem own_n5 (p : Int32) : ((p &&& (7 : Int32)) % (5 : Int32)) = (0 : Int32) ∨ ((p &&& (7 : Int32)) % (5 : Int32)) = (1 : Int32) ∨ ((p &&& (7 : Int32)) % (5 : Int32)) = (2 : Int32) ∨ ((p &&& (7 : Int32)) % (5 : Int32)) = (3 : Int32) ∨ ((p &&& (7 : Int32)) % (5 : Int32)) = (4 : Int32) := by
  have m := c_mask p (7 : Int32) 3 (by decide) (by decide)
  have v := (c_irem (p &&& (7 : Int32)) (5 : Int32) 5 (by decide)).1 (by rw [m]; omega)
  have e : ((p &&& (7 : Int32)) % (5 : Int32)).toInt = 0 ∨ ((p &&& (7 : Int32)) % (5 : Int32)).toInt = 1 ∨ ((p &&& (7 : Int32)) % (5 : Int32)).toInt = 2 ∨ ((p &&& (7 : Int32)) % (5 : Int32)).toInt = 3 ∨ ((p &&& (7 : Int32)) % (5 : Int32)).toInt = 4 := by
    rw [v]; omega
  rcases e with e | e | e | e | e
  · exact Or.inl (Int32.toInt_inj.mp (e.trans (by decide)))
  · exact Or.inr (Or.inl (Int32.toInt_inj.mp (e.trans (by decide))))
  · exact Or.inr (Or.inr (Or.inl (Int32.toInt_inj.mp (e.trans (by decide)))))
  · exact Or.inr (Or.inr (Or.inr (Or.inl (Int32.toInt_inj.mp (e.trans (by decide))))))
  · exact Or.inr (Or.inr (Or.inr (Or.inr (Int32.toInt_inj.mp (e.trans (by decide))))))
theorem own_pct (p : Int32) : ∃ v : Nat, ((p &&& (2147483647 : Int32)) % (101 : Int32)) = Int32.ofNat v ∧ v ≤ 100 := ⟨own_mod p 101, own_modE p _ 101 (by decide) (by decide), own_modL p 100⟩
def own_c (v : Int64) : List Int64 → Int
  | [] => 0
  | x :: xs => (if x.toInt ≤ v.toInt then 1 else 0) + own_c v xs
theorem own_cs {v x j j' : Int64} {c : Int} (hj : j.toInt = c) (h0 : 0 ≤ c) (h1 : c ≤ 100) (h : ((v < x) ∧ j' = j) ∨ ((¬ (v < x)) ∧ j' = (j + (1 : Int64)))) : j'.toInt = c + (if x.toInt ≤ v.toInt then 1 else 0) := by
  rw [Int64.lt_iff_toInt_lt] at h
  rcases h with ⟨q, rfl⟩ | ⟨q, rfl⟩
  · rw [if_neg (by omega)]; omega
  · rw [if_pos (by omega)]
    have a := c_ladd j (1 : Int64)
    have r := rng64 (j + (1 : Int64))
    have o : (1 : Int64).toInt = 1 := by decide
    omega
theorem own_ib (P : Prop) [Decidable P] : 0 ≤ (if P then (1 : Int) else 0) ∧ (if P then (1 : Int) else 0) ≤ 1 := by split <;> omega
theorem own_rank {q : Nat} {n c : Int64} {N : Int} (hn : n.toInt = N) (h1 : 1 ≤ N) (h4 : N ≤ 4) (hq : q ≤ 100) (h : ((((n * ((Int32.ofNat q).toInt64)) + (99 : Int64)) / (100 : Int64)) < (1 : Int64) ∧ c = (1 : Int64)) ∨ ((¬ ((((n * ((Int32.ofNat q).toInt64)) + (99 : Int64)) / (100 : Int64)) < (1 : Int64))) ∧ c = (((n * ((Int32.ofNat q).toInt64)) + (99 : Int64)) / (100 : Int64)))) :
    1 ≤ c.toInt ∧ c.toInt ≤ N ∧ N * q ≤ 100 * c.toInt ∧ (c.toInt = 1 ∨ 100 * (c.toInt - 1) < N * q) := by
  have e1 : ((Int32.ofNat q).toInt64).toInt = q := by rw [c_i2l, Int32.toInt_ofNat_small (by omega)]
  have b : 0 ≤ N * q ∧ N * q ≤ 100 * N := by
    constructor
    · exact Int.mul_nonneg (by omega) (by omega)
    · rw [Int.mul_comm]; exact Int.mul_le_mul_of_nonneg_right (by omega) (by omega)
  have e2 : (n * ((Int32.ofNat q).toInt64)).toInt = N * q := by
    have a := c_lmul n ((Int32.ofNat q).toInt64)
    have r := rng64 (n * ((Int32.ofNat q).toInt64))
    rw [hn, e1] at a
    omega
  have o9 : (99 : Int64).toInt = 99 := by decide
  have o1 : (1 : Int64).toInt = 1 := by decide
  have e3 : ((n * ((Int32.ofNat q).toInt64)) + (99 : Int64)).toInt = N * q + 99 := by
    have a := c_ladd (n * ((Int32.ofNat q).toInt64)) (99 : Int64)
    have r := rng64 ((n * ((Int32.ofNat q).toInt64)) + (99 : Int64))
    rw [e2, o9] at a
    omega
  have e4 : (((n * ((Int32.ofNat q).toInt64)) + (99 : Int64)) / (100 : Int64)).toInt = (N * q + 99) / 100 := by
    rw [(c_ldiv _ (100 : Int64) 100 (by decide) (by decide)).1 (by omega), e3]
  rw [Int64.lt_iff_toInt_lt, e4, o1] at h
  rcases h with ⟨z, rfl⟩ | ⟨z, rfl⟩
  · rw [o1]; omega
  · rw [e4]; omega
theorem own_cidx {c : Int64} (h : 1 ≤ c.toInt) (h2 : c.toInt ≤ 4) : ((c.toInt32) - (1 : Int32)).toInt = c.toInt - 1 := by
  have a := c_l2i c
  have r := rng32 c.toInt32
  have b := c_isub c.toInt32 (1 : Int32)
  have r2 := rng32 ((c.toInt32) - (1 : Int32))
  have o1 : (1 : Int32).toInt = 1 := by decide
  omega
theorem own_need {q : Nat} {n : Int64} {N : Int} (hn : n.toInt = N) (h1 : 1 ≤ N) (h4 : N ≤ 4) (hq : q ≤ 100) : (((Int32.ofNat q).toInt64) * n).toInt = N * q := by
  have e1 : ((Int32.ofNat q).toInt64).toInt = q := by rw [c_i2l, Int32.toInt_ofNat_small (by omega)]
  have b : 0 ≤ N * q ∧ N * q ≤ 100 * N := by
    constructor
    · exact Int.mul_nonneg (by omega) (by omega)
    · rw [Int.mul_comm]; exact Int.mul_le_mul_of_nonneg_right (by omega) (by omega)
  have a := c_lmul ((Int32.ofNat q).toInt64) n
  have r := rng64 (((Int32.ofNat q).toInt64) * n)
  rw [hn, e1, Int.mul_comm] at a
  omega
theorem own_hund {c : Int64} (h0 : 0 ≤ c.toInt) (h4 : c.toInt ≤ 4) : ((100 : Int64) * c).toInt = 100 * c.toInt := by
  have a := c_lmul (100 : Int64) c
  have r := rng64 ((100 : Int64) * c)
  have o : (100 : Int64).toInt = 100 := by decide
  rw [o] at a
  omega
theorem own_ix1 {q : Nat} {c : Int64} (hq : q ≤ 100) (h : ((((((1 : Int64) * ((Int32.ofNat q).toInt64)) + (99 : Int64)) / (100 : Int64)) < (1 : Int64)) ∧ c = (1 : Int64)) ∨ ((¬ (((((1 : Int64) * ((Int32.ofNat q).toInt64)) + (99 : Int64)) / (100 : Int64)) < (1 : Int64))) ∧ c = ((((1 : Int64) * ((Int32.ofNat q).toInt64)) + (99 : Int64)) / (100 : Int64)))) : ((c.toInt32) - (1 : Int32)) = (0 : Int32) := by
  obtain ⟨a1, a2, -, -⟩ := own_rank (N := 1) (by decide) (by decide) (by decide) hq h
  have e := own_cidx a1 (by omega)
  have z : c.toInt - 1 = 0 := by omega
  exact Int32.toInt_inj.mp (e.trans (z.trans (by decide)))
theorem own_ix2 {q : Nat} {c : Int64} (hq : q ≤ 100) (h : ((((((2 : Int64) * ((Int32.ofNat q).toInt64)) + (99 : Int64)) / (100 : Int64)) < (1 : Int64)) ∧ c = (1 : Int64)) ∨ ((¬ (((((2 : Int64) * ((Int32.ofNat q).toInt64)) + (99 : Int64)) / (100 : Int64)) < (1 : Int64))) ∧ c = ((((2 : Int64) * ((Int32.ofNat q).toInt64)) + (99 : Int64)) / (100 : Int64)))) : ((c.toInt32) - (1 : Int32)) = (0 : Int32) ∨ ((c.toInt32) - (1 : Int32)) = (1 : Int32) := by
  obtain ⟨a1, a2, -, -⟩ := own_rank (N := 2) (by decide) (by decide) (by decide) hq h
  have e := own_cidx a1 (by omega)
  have z : c.toInt - 1 = 0 ∨ c.toInt - 1 = 1 := by omega
  rcases z with z | z
  · exact Or.inl (Int32.toInt_inj.mp (e.trans (z.trans (by decide))))
  · exact Or.inr (Int32.toInt_inj.mp (e.trans (z.trans (by decide))))
theorem own_ix3 {q : Nat} {c : Int64} (hq : q ≤ 100) (h : ((((((3 : Int64) * ((Int32.ofNat q).toInt64)) + (99 : Int64)) / (100 : Int64)) < (1 : Int64)) ∧ c = (1 : Int64)) ∨ ((¬ (((((3 : Int64) * ((Int32.ofNat q).toInt64)) + (99 : Int64)) / (100 : Int64)) < (1 : Int64))) ∧ c = ((((3 : Int64) * ((Int32.ofNat q).toInt64)) + (99 : Int64)) / (100 : Int64)))) : ((c.toInt32) - (1 : Int32)) = (0 : Int32) ∨ ((c.toInt32) - (1 : Int32)) = (1 : Int32) ∨ ((c.toInt32) - (1 : Int32)) = (2 : Int32) := by
  obtain ⟨a1, a2, -, -⟩ := own_rank (N := 3) (by decide) (by decide) (by decide) hq h
  have e := own_cidx a1 (by omega)
  have z : c.toInt - 1 = 0 ∨ c.toInt - 1 = 1 ∨ c.toInt - 1 = 2 := by omega
  rcases z with z | z | z
  · exact Or.inl (Int32.toInt_inj.mp (e.trans (z.trans (by decide))))
  · exact Or.inr (Or.inl (Int32.toInt_inj.mp (e.trans (z.trans (by decide)))))
  · exact Or.inr (Or.inr (Int32.toInt_inj.mp (e.trans (z.trans (by decide)))))
theorem own_ix4 {q : Nat} {c : Int64} (hq : q ≤ 100) (h : ((((((4 : Int64) * ((Int32.ofNat q).toInt64)) + (99 : Int64)) / (100 : Int64)) < (1 : Int64)) ∧ c = (1 : Int64)) ∨ ((¬ (((((4 : Int64) * ((Int32.ofNat q).toInt64)) + (99 : Int64)) / (100 : Int64)) < (1 : Int64))) ∧ c = ((((4 : Int64) * ((Int32.ofNat q).toInt64)) + (99 : Int64)) / (100 : Int64)))) : ((c.toInt32) - (1 : Int32)) = (0 : Int32) ∨ ((c.toInt32) - (1 : Int32)) = (1 : Int32) ∨ ((c.toInt32) - (1 : Int32)) = (2 : Int32) ∨ ((c.toInt32) - (1 : Int32)) = (3 : Int32) := by
  obtain ⟨a1, a2, -, -⟩ := own_rank (N := 4) (by decide) (by decide) (by decide) hq h
  have e := own_cidx a1 (by omega)
  have z : c.toInt - 1 = 0 ∨ c.toInt - 1 = 1 ∨ c.toInt - 1 = 2 ∨ c.toInt - 1 = 3 := by omega
  rcases z with z | z | z | z
  · exact Or.inl (Int32.toInt_inj.mp (e.trans (z.trans (by decide))))
  · exact Or.inr (Or.inl (Int32.toInt_inj.mp (e.trans (z.trans (by decide)))))
  · exact Or.inr (Or.inr (Or.inl (Int32.toInt_inj.mp (e.trans (z.trans (by decide))))))
  · exact Or.inr (Or.inr (Or.inr (Int32.toInt_inj.mp (e.trans (z.trans (by decide))))))
def own_R (n k q : Nat) : Prop := (n : Int) * q ≤ 100 * (k + 1) ∧ (k = 0 ∨ 100 * (k : Int) < (n : Int) * q)
theorem own_rk1 {q k : Nat} {c : Int64} {I : Int32} (h : (((((((1 : Int64) * ((Int32.ofNat q).toInt64)) + (99 : Int64)) / (100 : Int64))) < (1 : Int64)) ∧ c = (1 : Int64)) ∨ ((¬ ((((((1 : Int64) * ((Int32.ofNat q).toInt64)) + (99 : Int64)) / (100 : Int64))) < (1 : Int64))) ∧ c = (((((1 : Int64) * ((Int32.ofNat q).toInt64)) + (99 : Int64)) / (100 : Int64))))) (hk : ((c.toInt32) - (1 : Int32)) = I) (hq : q ≤ 100) (hI : I.toInt = k := by decide) : own_R 1 k q := by
  obtain ⟨a1, a2, a3, a4⟩ := own_rank (N := 1) (by decide) (by decide) (by decide) hq h
  have e := own_cidx a1 (by omega)
  rw [hk, hI] at e
  constructor
  · show ((1 : Nat) : Int) * q ≤ _; omega
  · show k = 0 ∨ 100 * (k : Int) < ((1 : Nat) : Int) * q; omega
theorem own_en_1_0 {x0 x1 x2 x3 c : Int64} {q : Nat} (hs : own_sorted x0 x1 x2 x3) (hr : own_R 1 0 q) (hq : q ≤ 100) (hc : c.toInt = own_c x0 [x0]) : ¬ (((100 : Int64) * c) < (((Int32.ofNat q).toInt64) * (1 : Int64))) := by
  obtain ⟨s1, s2, s3⟩ := hs
  obtain ⟨r1, r2⟩ := hr
  simp only [own_c] at hc
  have u0 := own_ib (x0.toInt ≤ x0.toInt)
  rw [if_pos (Int.le_refl _)] at hc u0
  rw [Int64.lt_iff_toInt_lt, own_hund (by omega) (by omega), own_need (N := 1) (by decide) (by decide) (by decide) hq]
  omega
theorem own_fi_1_0_0 {x0 x1 x2 x3 : Int64} {j : Int32} {q : Nat} (hs : own_sorted x0 x1 x2 x3) (hr : own_R 1 0 q) (hq : q ≤ 100) (h : ((x0 ≤ x0) ∧ j = (1 : Int32)) ∨ (∃ (w : Int64), (¬ (x0 ≤ x0)) ∧ (w.toInt = own_c x0 [x0]) ∧ ((((Int32.ofNat q).toInt64) * (1 : Int64)) ≤ ((100 : Int64) * w)) ∧ j = (0 : Int32)) ∨ (∃ (w : Int64), (¬ (x0 ≤ x0)) ∧ (w.toInt = own_c x0 [x0]) ∧ (¬ ((((Int32.ofNat q).toInt64) * (1 : Int64)) ≤ ((100 : Int64) * w))) ∧ j = (1 : Int32))) : ¬ (j = (0 : Int32)) := by
  rcases h with ⟨-, rfl⟩ | ⟨w, a, b, d, -⟩ | ⟨w, -, -, -, rfl⟩
  · decide
  · exfalso
    obtain ⟨s1, s2, s3⟩ := hs
    obtain ⟨r1, r2⟩ := hr
    rw [Int64.le_iff_toInt_le] at a
    simp only [own_c] at b
    have u0 := own_ib (x0.toInt ≤ x0.toInt)
    omega
  · decide
theorem own_rk2 {q k : Nat} {c : Int64} {I : Int32} (h : (((((((2 : Int64) * ((Int32.ofNat q).toInt64)) + (99 : Int64)) / (100 : Int64))) < (1 : Int64)) ∧ c = (1 : Int64)) ∨ ((¬ ((((((2 : Int64) * ((Int32.ofNat q).toInt64)) + (99 : Int64)) / (100 : Int64))) < (1 : Int64))) ∧ c = (((((2 : Int64) * ((Int32.ofNat q).toInt64)) + (99 : Int64)) / (100 : Int64))))) (hk : ((c.toInt32) - (1 : Int32)) = I) (hq : q ≤ 100) (hI : I.toInt = k := by decide) : own_R 2 k q := by
  obtain ⟨a1, a2, a3, a4⟩ := own_rank (N := 2) (by decide) (by decide) (by decide) hq h
  have e := own_cidx a1 (by omega)
  rw [hk, hI] at e
  constructor
  · show ((2 : Nat) : Int) * q ≤ _; omega
  · show k = 0 ∨ 100 * (k : Int) < ((2 : Nat) : Int) * q; omega
theorem own_en_2_0 {x0 x1 x2 x3 c : Int64} {q : Nat} (hs : own_sorted x0 x1 x2 x3) (hr : own_R 2 0 q) (hq : q ≤ 100) (hc : c.toInt = own_c x0 [x0, x1]) : ¬ (((100 : Int64) * c) < (((Int32.ofNat q).toInt64) * (2 : Int64))) := by
  obtain ⟨s1, s2, s3⟩ := hs
  obtain ⟨r1, r2⟩ := hr
  simp only [own_c] at hc
  have u0 := own_ib (x0.toInt ≤ x0.toInt)
  have u1 := own_ib (x1.toInt ≤ x0.toInt)
  rw [if_pos (Int.le_refl _)] at hc u0
  rw [Int64.lt_iff_toInt_lt, own_hund (by omega) (by omega), own_need (N := 2) (by decide) (by decide) (by decide) hq]
  omega
theorem own_fi_2_0_0 {x0 x1 x2 x3 : Int64} {j : Int32} {q : Nat} (hs : own_sorted x0 x1 x2 x3) (hr : own_R 2 0 q) (hq : q ≤ 100) (h : ((x0 ≤ x0) ∧ j = (1 : Int32)) ∨ (∃ (w : Int64), (¬ (x0 ≤ x0)) ∧ (w.toInt = own_c x0 [x0, x1]) ∧ ((((Int32.ofNat q).toInt64) * (2 : Int64)) ≤ ((100 : Int64) * w)) ∧ j = (0 : Int32)) ∨ (∃ (w : Int64), (¬ (x0 ≤ x0)) ∧ (w.toInt = own_c x0 [x0, x1]) ∧ (¬ ((((Int32.ofNat q).toInt64) * (2 : Int64)) ≤ ((100 : Int64) * w))) ∧ j = (1 : Int32))) : ¬ (j = (0 : Int32)) := by
  rcases h with ⟨-, rfl⟩ | ⟨w, a, b, d, -⟩ | ⟨w, -, -, -, rfl⟩
  · decide
  · exfalso
    obtain ⟨s1, s2, s3⟩ := hs
    obtain ⟨r1, r2⟩ := hr
    rw [Int64.le_iff_toInt_le] at a
    simp only [own_c] at b
    have u0 := own_ib (x0.toInt ≤ x0.toInt)
    have u1 := own_ib (x1.toInt ≤ x0.toInt)
    omega
  · decide
theorem own_fi_2_0_1 {x0 x1 x2 x3 : Int64} {j : Int32} {q : Nat} (hs : own_sorted x0 x1 x2 x3) (hr : own_R 2 0 q) (hq : q ≤ 100) (h : ((x0 ≤ x1) ∧ j = (1 : Int32)) ∨ (∃ (w : Int64), (¬ (x0 ≤ x1)) ∧ (w.toInt = own_c x1 [x0, x1]) ∧ ((((Int32.ofNat q).toInt64) * (2 : Int64)) ≤ ((100 : Int64) * w)) ∧ j = (0 : Int32)) ∨ (∃ (w : Int64), (¬ (x0 ≤ x1)) ∧ (w.toInt = own_c x1 [x0, x1]) ∧ (¬ ((((Int32.ofNat q).toInt64) * (2 : Int64)) ≤ ((100 : Int64) * w))) ∧ j = (1 : Int32))) : ¬ (j = (0 : Int32)) := by
  rcases h with ⟨-, rfl⟩ | ⟨w, a, b, d, -⟩ | ⟨w, -, -, -, rfl⟩
  · decide
  · exfalso
    obtain ⟨s1, s2, s3⟩ := hs
    obtain ⟨r1, r2⟩ := hr
    rw [Int64.le_iff_toInt_le] at a
    simp only [own_c] at b
    have u0 := own_ib (x0.toInt ≤ x1.toInt)
    have u1 := own_ib (x1.toInt ≤ x1.toInt)
    omega
  · decide
theorem own_en_2_1 {x0 x1 x2 x3 c : Int64} {q : Nat} (hs : own_sorted x0 x1 x2 x3) (hr : own_R 2 1 q) (hq : q ≤ 100) (hc : c.toInt = own_c x1 [x0, x1]) : ¬ (((100 : Int64) * c) < (((Int32.ofNat q).toInt64) * (2 : Int64))) := by
  obtain ⟨s1, s2, s3⟩ := hs
  obtain ⟨r1, r2⟩ := hr
  simp only [own_c] at hc
  have u0 := own_ib (x0.toInt ≤ x1.toInt)
  have u1 := own_ib (x1.toInt ≤ x1.toInt)
  rw [if_pos (show x0.toInt ≤ x1.toInt by omega)] at hc u0
  rw [if_pos (Int.le_refl _)] at hc u1
  rw [Int64.lt_iff_toInt_lt, own_hund (by omega) (by omega), own_need (N := 2) (by decide) (by decide) (by decide) hq]
  omega
theorem own_fi_2_1_0 {x0 x1 x2 x3 : Int64} {j : Int32} {q : Nat} (hs : own_sorted x0 x1 x2 x3) (hr : own_R 2 1 q) (hq : q ≤ 100) (h : ((x1 ≤ x0) ∧ j = (1 : Int32)) ∨ (∃ (w : Int64), (¬ (x1 ≤ x0)) ∧ (w.toInt = own_c x0 [x0, x1]) ∧ ((((Int32.ofNat q).toInt64) * (2 : Int64)) ≤ ((100 : Int64) * w)) ∧ j = (0 : Int32)) ∨ (∃ (w : Int64), (¬ (x1 ≤ x0)) ∧ (w.toInt = own_c x0 [x0, x1]) ∧ (¬ ((((Int32.ofNat q).toInt64) * (2 : Int64)) ≤ ((100 : Int64) * w))) ∧ j = (1 : Int32))) : ¬ (j = (0 : Int32)) := by
  rcases h with ⟨-, rfl⟩ | ⟨w, a, b, d, -⟩ | ⟨w, -, -, -, rfl⟩
  · decide
  · exfalso
    obtain ⟨s1, s2, s3⟩ := hs
    obtain ⟨r1, r2⟩ := hr
    rw [Int64.le_iff_toInt_le] at a
    simp only [own_c] at b
    have u0 := own_ib (x0.toInt ≤ x0.toInt)
    have u1 := own_ib (x1.toInt ≤ x0.toInt)
    rw [if_neg (show ¬ (x1.toInt ≤ x0.toInt) by omega)] at b u1
    rw [Int64.le_iff_toInt_le, own_hund (by omega) (by omega), own_need (N := 2) (by decide) (by decide) (by decide) hq] at d
    omega
  · decide
theorem own_fi_2_1_1 {x0 x1 x2 x3 : Int64} {j : Int32} {q : Nat} (hs : own_sorted x0 x1 x2 x3) (hr : own_R 2 1 q) (hq : q ≤ 100) (h : ((x1 ≤ x1) ∧ j = (1 : Int32)) ∨ (∃ (w : Int64), (¬ (x1 ≤ x1)) ∧ (w.toInt = own_c x1 [x0, x1]) ∧ ((((Int32.ofNat q).toInt64) * (2 : Int64)) ≤ ((100 : Int64) * w)) ∧ j = (0 : Int32)) ∨ (∃ (w : Int64), (¬ (x1 ≤ x1)) ∧ (w.toInt = own_c x1 [x0, x1]) ∧ (¬ ((((Int32.ofNat q).toInt64) * (2 : Int64)) ≤ ((100 : Int64) * w))) ∧ j = (1 : Int32))) : ¬ (j = (0 : Int32)) := by
  rcases h with ⟨-, rfl⟩ | ⟨w, a, b, d, -⟩ | ⟨w, -, -, -, rfl⟩
  · decide
  · exfalso
    obtain ⟨s1, s2, s3⟩ := hs
    obtain ⟨r1, r2⟩ := hr
    rw [Int64.le_iff_toInt_le] at a
    simp only [own_c] at b
    have u0 := own_ib (x0.toInt ≤ x1.toInt)
    have u1 := own_ib (x1.toInt ≤ x1.toInt)
    omega
  · decide
theorem own_rk3 {q k : Nat} {c : Int64} {I : Int32} (h : (((((((3 : Int64) * ((Int32.ofNat q).toInt64)) + (99 : Int64)) / (100 : Int64))) < (1 : Int64)) ∧ c = (1 : Int64)) ∨ ((¬ ((((((3 : Int64) * ((Int32.ofNat q).toInt64)) + (99 : Int64)) / (100 : Int64))) < (1 : Int64))) ∧ c = (((((3 : Int64) * ((Int32.ofNat q).toInt64)) + (99 : Int64)) / (100 : Int64))))) (hk : ((c.toInt32) - (1 : Int32)) = I) (hq : q ≤ 100) (hI : I.toInt = k := by decide) : own_R 3 k q := by
  obtain ⟨a1, a2, a3, a4⟩ := own_rank (N := 3) (by decide) (by decide) (by decide) hq h
  have e := own_cidx a1 (by omega)
  rw [hk, hI] at e
  constructor
  · show ((3 : Nat) : Int) * q ≤ _; omega
  · show k = 0 ∨ 100 * (k : Int) < ((3 : Nat) : Int) * q; omega
theorem own_en_3_0 {x0 x1 x2 x3 c : Int64} {q : Nat} (hs : own_sorted x0 x1 x2 x3) (hr : own_R 3 0 q) (hq : q ≤ 100) (hc : c.toInt = own_c x0 [x0, x1, x2]) : ¬ (((100 : Int64) * c) < (((Int32.ofNat q).toInt64) * (3 : Int64))) := by
  obtain ⟨s1, s2, s3⟩ := hs
  obtain ⟨r1, r2⟩ := hr
  simp only [own_c] at hc
  have u0 := own_ib (x0.toInt ≤ x0.toInt)
  have u1 := own_ib (x1.toInt ≤ x0.toInt)
  have u2 := own_ib (x2.toInt ≤ x0.toInt)
  rw [if_pos (Int.le_refl _)] at hc u0
  rw [Int64.lt_iff_toInt_lt, own_hund (by omega) (by omega), own_need (N := 3) (by decide) (by decide) (by decide) hq]
  omega
theorem own_fi_3_0_0 {x0 x1 x2 x3 : Int64} {j : Int32} {q : Nat} (hs : own_sorted x0 x1 x2 x3) (hr : own_R 3 0 q) (hq : q ≤ 100) (h : ((x0 ≤ x0) ∧ j = (1 : Int32)) ∨ (∃ (w : Int64), (¬ (x0 ≤ x0)) ∧ (w.toInt = own_c x0 [x0, x1, x2]) ∧ ((((Int32.ofNat q).toInt64) * (3 : Int64)) ≤ ((100 : Int64) * w)) ∧ j = (0 : Int32)) ∨ (∃ (w : Int64), (¬ (x0 ≤ x0)) ∧ (w.toInt = own_c x0 [x0, x1, x2]) ∧ (¬ ((((Int32.ofNat q).toInt64) * (3 : Int64)) ≤ ((100 : Int64) * w))) ∧ j = (1 : Int32))) : ¬ (j = (0 : Int32)) := by
  rcases h with ⟨-, rfl⟩ | ⟨w, a, b, d, -⟩ | ⟨w, -, -, -, rfl⟩
  · decide
  · exfalso
    obtain ⟨s1, s2, s3⟩ := hs
    obtain ⟨r1, r2⟩ := hr
    rw [Int64.le_iff_toInt_le] at a
    simp only [own_c] at b
    have u0 := own_ib (x0.toInt ≤ x0.toInt)
    have u1 := own_ib (x1.toInt ≤ x0.toInt)
    have u2 := own_ib (x2.toInt ≤ x0.toInt)
    omega
  · decide
theorem own_fi_3_0_1 {x0 x1 x2 x3 : Int64} {j : Int32} {q : Nat} (hs : own_sorted x0 x1 x2 x3) (hr : own_R 3 0 q) (hq : q ≤ 100) (h : ((x0 ≤ x1) ∧ j = (1 : Int32)) ∨ (∃ (w : Int64), (¬ (x0 ≤ x1)) ∧ (w.toInt = own_c x1 [x0, x1, x2]) ∧ ((((Int32.ofNat q).toInt64) * (3 : Int64)) ≤ ((100 : Int64) * w)) ∧ j = (0 : Int32)) ∨ (∃ (w : Int64), (¬ (x0 ≤ x1)) ∧ (w.toInt = own_c x1 [x0, x1, x2]) ∧ (¬ ((((Int32.ofNat q).toInt64) * (3 : Int64)) ≤ ((100 : Int64) * w))) ∧ j = (1 : Int32))) : ¬ (j = (0 : Int32)) := by
  rcases h with ⟨-, rfl⟩ | ⟨w, a, b, d, -⟩ | ⟨w, -, -, -, rfl⟩
  · decide
  · exfalso
    obtain ⟨s1, s2, s3⟩ := hs
    obtain ⟨r1, r2⟩ := hr
    rw [Int64.le_iff_toInt_le] at a
    simp only [own_c] at b
    have u0 := own_ib (x0.toInt ≤ x1.toInt)
    have u1 := own_ib (x1.toInt ≤ x1.toInt)
    have u2 := own_ib (x2.toInt ≤ x1.toInt)
    omega
  · decide
theorem own_fi_3_0_2 {x0 x1 x2 x3 : Int64} {j : Int32} {q : Nat} (hs : own_sorted x0 x1 x2 x3) (hr : own_R 3 0 q) (hq : q ≤ 100) (h : ((x0 ≤ x2) ∧ j = (1 : Int32)) ∨ (∃ (w : Int64), (¬ (x0 ≤ x2)) ∧ (w.toInt = own_c x2 [x0, x1, x2]) ∧ ((((Int32.ofNat q).toInt64) * (3 : Int64)) ≤ ((100 : Int64) * w)) ∧ j = (0 : Int32)) ∨ (∃ (w : Int64), (¬ (x0 ≤ x2)) ∧ (w.toInt = own_c x2 [x0, x1, x2]) ∧ (¬ ((((Int32.ofNat q).toInt64) * (3 : Int64)) ≤ ((100 : Int64) * w))) ∧ j = (1 : Int32))) : ¬ (j = (0 : Int32)) := by
  rcases h with ⟨-, rfl⟩ | ⟨w, a, b, d, -⟩ | ⟨w, -, -, -, rfl⟩
  · decide
  · exfalso
    obtain ⟨s1, s2, s3⟩ := hs
    obtain ⟨r1, r2⟩ := hr
    rw [Int64.le_iff_toInt_le] at a
    simp only [own_c] at b
    have u0 := own_ib (x0.toInt ≤ x2.toInt)
    have u1 := own_ib (x1.toInt ≤ x2.toInt)
    have u2 := own_ib (x2.toInt ≤ x2.toInt)
    omega
  · decide
theorem own_en_3_1 {x0 x1 x2 x3 c : Int64} {q : Nat} (hs : own_sorted x0 x1 x2 x3) (hr : own_R 3 1 q) (hq : q ≤ 100) (hc : c.toInt = own_c x1 [x0, x1, x2]) : ¬ (((100 : Int64) * c) < (((Int32.ofNat q).toInt64) * (3 : Int64))) := by
  obtain ⟨s1, s2, s3⟩ := hs
  obtain ⟨r1, r2⟩ := hr
  simp only [own_c] at hc
  have u0 := own_ib (x0.toInt ≤ x1.toInt)
  have u1 := own_ib (x1.toInt ≤ x1.toInt)
  have u2 := own_ib (x2.toInt ≤ x1.toInt)
  rw [if_pos (show x0.toInt ≤ x1.toInt by omega)] at hc u0
  rw [if_pos (Int.le_refl _)] at hc u1
  rw [Int64.lt_iff_toInt_lt, own_hund (by omega) (by omega), own_need (N := 3) (by decide) (by decide) (by decide) hq]
  omega
theorem own_fi_3_1_0 {x0 x1 x2 x3 : Int64} {j : Int32} {q : Nat} (hs : own_sorted x0 x1 x2 x3) (hr : own_R 3 1 q) (hq : q ≤ 100) (h : ((x1 ≤ x0) ∧ j = (1 : Int32)) ∨ (∃ (w : Int64), (¬ (x1 ≤ x0)) ∧ (w.toInt = own_c x0 [x0, x1, x2]) ∧ ((((Int32.ofNat q).toInt64) * (3 : Int64)) ≤ ((100 : Int64) * w)) ∧ j = (0 : Int32)) ∨ (∃ (w : Int64), (¬ (x1 ≤ x0)) ∧ (w.toInt = own_c x0 [x0, x1, x2]) ∧ (¬ ((((Int32.ofNat q).toInt64) * (3 : Int64)) ≤ ((100 : Int64) * w))) ∧ j = (1 : Int32))) : ¬ (j = (0 : Int32)) := by
  rcases h with ⟨-, rfl⟩ | ⟨w, a, b, d, -⟩ | ⟨w, -, -, -, rfl⟩
  · decide
  · exfalso
    obtain ⟨s1, s2, s3⟩ := hs
    obtain ⟨r1, r2⟩ := hr
    rw [Int64.le_iff_toInt_le] at a
    simp only [own_c] at b
    have u0 := own_ib (x0.toInt ≤ x0.toInt)
    have u1 := own_ib (x1.toInt ≤ x0.toInt)
    have u2 := own_ib (x2.toInt ≤ x0.toInt)
    rw [if_neg (show ¬ (x1.toInt ≤ x0.toInt) by omega)] at b u1
    rw [if_neg (show ¬ (x2.toInt ≤ x0.toInt) by omega)] at b u2
    rw [Int64.le_iff_toInt_le, own_hund (by omega) (by omega), own_need (N := 3) (by decide) (by decide) (by decide) hq] at d
    omega
  · decide
theorem own_fi_3_1_1 {x0 x1 x2 x3 : Int64} {j : Int32} {q : Nat} (hs : own_sorted x0 x1 x2 x3) (hr : own_R 3 1 q) (hq : q ≤ 100) (h : ((x1 ≤ x1) ∧ j = (1 : Int32)) ∨ (∃ (w : Int64), (¬ (x1 ≤ x1)) ∧ (w.toInt = own_c x1 [x0, x1, x2]) ∧ ((((Int32.ofNat q).toInt64) * (3 : Int64)) ≤ ((100 : Int64) * w)) ∧ j = (0 : Int32)) ∨ (∃ (w : Int64), (¬ (x1 ≤ x1)) ∧ (w.toInt = own_c x1 [x0, x1, x2]) ∧ (¬ ((((Int32.ofNat q).toInt64) * (3 : Int64)) ≤ ((100 : Int64) * w))) ∧ j = (1 : Int32))) : ¬ (j = (0 : Int32)) := by
  rcases h with ⟨-, rfl⟩ | ⟨w, a, b, d, -⟩ | ⟨w, -, -, -, rfl⟩
  · decide
  · exfalso
    obtain ⟨s1, s2, s3⟩ := hs
    obtain ⟨r1, r2⟩ := hr
    rw [Int64.le_iff_toInt_le] at a
    simp only [own_c] at b
    have u0 := own_ib (x0.toInt ≤ x1.toInt)
    have u1 := own_ib (x1.toInt ≤ x1.toInt)
    have u2 := own_ib (x2.toInt ≤ x1.toInt)
    omega
  · decide
theorem own_fi_3_1_2 {x0 x1 x2 x3 : Int64} {j : Int32} {q : Nat} (hs : own_sorted x0 x1 x2 x3) (hr : own_R 3 1 q) (hq : q ≤ 100) (h : ((x1 ≤ x2) ∧ j = (1 : Int32)) ∨ (∃ (w : Int64), (¬ (x1 ≤ x2)) ∧ (w.toInt = own_c x2 [x0, x1, x2]) ∧ ((((Int32.ofNat q).toInt64) * (3 : Int64)) ≤ ((100 : Int64) * w)) ∧ j = (0 : Int32)) ∨ (∃ (w : Int64), (¬ (x1 ≤ x2)) ∧ (w.toInt = own_c x2 [x0, x1, x2]) ∧ (¬ ((((Int32.ofNat q).toInt64) * (3 : Int64)) ≤ ((100 : Int64) * w))) ∧ j = (1 : Int32))) : ¬ (j = (0 : Int32)) := by
  rcases h with ⟨-, rfl⟩ | ⟨w, a, b, d, -⟩ | ⟨w, -, -, -, rfl⟩
  · decide
  · exfalso
    obtain ⟨s1, s2, s3⟩ := hs
    obtain ⟨r1, r2⟩ := hr
    rw [Int64.le_iff_toInt_le] at a
    simp only [own_c] at b
    have u0 := own_ib (x0.toInt ≤ x2.toInt)
    have u1 := own_ib (x1.toInt ≤ x2.toInt)
    have u2 := own_ib (x2.toInt ≤ x2.toInt)
    omega
  · decide
theorem own_en_3_2 {x0 x1 x2 x3 c : Int64} {q : Nat} (hs : own_sorted x0 x1 x2 x3) (hr : own_R 3 2 q) (hq : q ≤ 100) (hc : c.toInt = own_c x2 [x0, x1, x2]) : ¬ (((100 : Int64) * c) < (((Int32.ofNat q).toInt64) * (3 : Int64))) := by
  obtain ⟨s1, s2, s3⟩ := hs
  obtain ⟨r1, r2⟩ := hr
  simp only [own_c] at hc
  have u0 := own_ib (x0.toInt ≤ x2.toInt)
  have u1 := own_ib (x1.toInt ≤ x2.toInt)
  have u2 := own_ib (x2.toInt ≤ x2.toInt)
  rw [if_pos (show x0.toInt ≤ x2.toInt by omega)] at hc u0
  rw [if_pos (show x1.toInt ≤ x2.toInt by omega)] at hc u1
  rw [if_pos (Int.le_refl _)] at hc u2
  rw [Int64.lt_iff_toInt_lt, own_hund (by omega) (by omega), own_need (N := 3) (by decide) (by decide) (by decide) hq]
  omega
theorem own_fi_3_2_0 {x0 x1 x2 x3 : Int64} {j : Int32} {q : Nat} (hs : own_sorted x0 x1 x2 x3) (hr : own_R 3 2 q) (hq : q ≤ 100) (h : ((x2 ≤ x0) ∧ j = (1 : Int32)) ∨ (∃ (w : Int64), (¬ (x2 ≤ x0)) ∧ (w.toInt = own_c x0 [x0, x1, x2]) ∧ ((((Int32.ofNat q).toInt64) * (3 : Int64)) ≤ ((100 : Int64) * w)) ∧ j = (0 : Int32)) ∨ (∃ (w : Int64), (¬ (x2 ≤ x0)) ∧ (w.toInt = own_c x0 [x0, x1, x2]) ∧ (¬ ((((Int32.ofNat q).toInt64) * (3 : Int64)) ≤ ((100 : Int64) * w))) ∧ j = (1 : Int32))) : ¬ (j = (0 : Int32)) := by
  rcases h with ⟨-, rfl⟩ | ⟨w, a, b, d, -⟩ | ⟨w, -, -, -, rfl⟩
  · decide
  · exfalso
    obtain ⟨s1, s2, s3⟩ := hs
    obtain ⟨r1, r2⟩ := hr
    rw [Int64.le_iff_toInt_le] at a
    simp only [own_c] at b
    have u0 := own_ib (x0.toInt ≤ x0.toInt)
    have u1 := own_ib (x1.toInt ≤ x0.toInt)
    have u2 := own_ib (x2.toInt ≤ x0.toInt)
    rw [if_neg (show ¬ (x2.toInt ≤ x0.toInt) by omega)] at b u2
    rw [Int64.le_iff_toInt_le, own_hund (by omega) (by omega), own_need (N := 3) (by decide) (by decide) (by decide) hq] at d
    omega
  · decide
theorem own_fi_3_2_1 {x0 x1 x2 x3 : Int64} {j : Int32} {q : Nat} (hs : own_sorted x0 x1 x2 x3) (hr : own_R 3 2 q) (hq : q ≤ 100) (h : ((x2 ≤ x1) ∧ j = (1 : Int32)) ∨ (∃ (w : Int64), (¬ (x2 ≤ x1)) ∧ (w.toInt = own_c x1 [x0, x1, x2]) ∧ ((((Int32.ofNat q).toInt64) * (3 : Int64)) ≤ ((100 : Int64) * w)) ∧ j = (0 : Int32)) ∨ (∃ (w : Int64), (¬ (x2 ≤ x1)) ∧ (w.toInt = own_c x1 [x0, x1, x2]) ∧ (¬ ((((Int32.ofNat q).toInt64) * (3 : Int64)) ≤ ((100 : Int64) * w))) ∧ j = (1 : Int32))) : ¬ (j = (0 : Int32)) := by
  rcases h with ⟨-, rfl⟩ | ⟨w, a, b, d, -⟩ | ⟨w, -, -, -, rfl⟩
  · decide
  · exfalso
    obtain ⟨s1, s2, s3⟩ := hs
    obtain ⟨r1, r2⟩ := hr
    rw [Int64.le_iff_toInt_le] at a
    simp only [own_c] at b
    have u0 := own_ib (x0.toInt ≤ x1.toInt)
    have u1 := own_ib (x1.toInt ≤ x1.toInt)
    have u2 := own_ib (x2.toInt ≤ x1.toInt)
    rw [if_neg (show ¬ (x2.toInt ≤ x1.toInt) by omega)] at b u2
    rw [Int64.le_iff_toInt_le, own_hund (by omega) (by omega), own_need (N := 3) (by decide) (by decide) (by decide) hq] at d
    omega
  · decide
theorem own_fi_3_2_2 {x0 x1 x2 x3 : Int64} {j : Int32} {q : Nat} (hs : own_sorted x0 x1 x2 x3) (hr : own_R 3 2 q) (hq : q ≤ 100) (h : ((x2 ≤ x2) ∧ j = (1 : Int32)) ∨ (∃ (w : Int64), (¬ (x2 ≤ x2)) ∧ (w.toInt = own_c x2 [x0, x1, x2]) ∧ ((((Int32.ofNat q).toInt64) * (3 : Int64)) ≤ ((100 : Int64) * w)) ∧ j = (0 : Int32)) ∨ (∃ (w : Int64), (¬ (x2 ≤ x2)) ∧ (w.toInt = own_c x2 [x0, x1, x2]) ∧ (¬ ((((Int32.ofNat q).toInt64) * (3 : Int64)) ≤ ((100 : Int64) * w))) ∧ j = (1 : Int32))) : ¬ (j = (0 : Int32)) := by
  rcases h with ⟨-, rfl⟩ | ⟨w, a, b, d, -⟩ | ⟨w, -, -, -, rfl⟩
  · decide
  · exfalso
    obtain ⟨s1, s2, s3⟩ := hs
    obtain ⟨r1, r2⟩ := hr
    rw [Int64.le_iff_toInt_le] at a
    simp only [own_c] at b
    have u0 := own_ib (x0.toInt ≤ x2.toInt)
    have u1 := own_ib (x1.toInt ≤ x2.toInt)
    have u2 := own_ib (x2.toInt ≤ x2.toInt)
    omega
  · decide
theorem own_rk4 {q k : Nat} {c : Int64} {I : Int32} (h : (((((((4 : Int64) * ((Int32.ofNat q).toInt64)) + (99 : Int64)) / (100 : Int64))) < (1 : Int64)) ∧ c = (1 : Int64)) ∨ ((¬ ((((((4 : Int64) * ((Int32.ofNat q).toInt64)) + (99 : Int64)) / (100 : Int64))) < (1 : Int64))) ∧ c = (((((4 : Int64) * ((Int32.ofNat q).toInt64)) + (99 : Int64)) / (100 : Int64))))) (hk : ((c.toInt32) - (1 : Int32)) = I) (hq : q ≤ 100) (hI : I.toInt = k := by decide) : own_R 4 k q := by
  obtain ⟨a1, a2, a3, a4⟩ := own_rank (N := 4) (by decide) (by decide) (by decide) hq h
  have e := own_cidx a1 (by omega)
  rw [hk, hI] at e
  constructor
  · show ((4 : Nat) : Int) * q ≤ _; omega
  · show k = 0 ∨ 100 * (k : Int) < ((4 : Nat) : Int) * q; omega
theorem own_en_4_0 {x0 x1 x2 x3 c : Int64} {q : Nat} (hs : own_sorted x0 x1 x2 x3) (hr : own_R 4 0 q) (hq : q ≤ 100) (hc : c.toInt = own_c x0 [x0, x1, x2, x3]) : ¬ (((100 : Int64) * c) < (((Int32.ofNat q).toInt64) * (4 : Int64))) := by
  obtain ⟨s1, s2, s3⟩ := hs
  obtain ⟨r1, r2⟩ := hr
  simp only [own_c] at hc
  have u0 := own_ib (x0.toInt ≤ x0.toInt)
  have u1 := own_ib (x1.toInt ≤ x0.toInt)
  have u2 := own_ib (x2.toInt ≤ x0.toInt)
  have u3 := own_ib (x3.toInt ≤ x0.toInt)
  rw [if_pos (Int.le_refl _)] at hc u0
  rw [Int64.lt_iff_toInt_lt, own_hund (by omega) (by omega), own_need (N := 4) (by decide) (by decide) (by decide) hq]
  omega
theorem own_fi_4_0_0 {x0 x1 x2 x3 : Int64} {j : Int32} {q : Nat} (hs : own_sorted x0 x1 x2 x3) (hr : own_R 4 0 q) (hq : q ≤ 100) (h : ((x0 ≤ x0) ∧ j = (1 : Int32)) ∨ (∃ (w : Int64), (¬ (x0 ≤ x0)) ∧ (w.toInt = own_c x0 [x0, x1, x2, x3]) ∧ ((((Int32.ofNat q).toInt64) * (4 : Int64)) ≤ ((100 : Int64) * w)) ∧ j = (0 : Int32)) ∨ (∃ (w : Int64), (¬ (x0 ≤ x0)) ∧ (w.toInt = own_c x0 [x0, x1, x2, x3]) ∧ (¬ ((((Int32.ofNat q).toInt64) * (4 : Int64)) ≤ ((100 : Int64) * w))) ∧ j = (1 : Int32))) : ¬ (j = (0 : Int32)) := by
  rcases h with ⟨-, rfl⟩ | ⟨w, a, b, d, -⟩ | ⟨w, -, -, -, rfl⟩
  · decide
  · exfalso
    obtain ⟨s1, s2, s3⟩ := hs
    obtain ⟨r1, r2⟩ := hr
    rw [Int64.le_iff_toInt_le] at a
    simp only [own_c] at b
    have u0 := own_ib (x0.toInt ≤ x0.toInt)
    have u1 := own_ib (x1.toInt ≤ x0.toInt)
    have u2 := own_ib (x2.toInt ≤ x0.toInt)
    have u3 := own_ib (x3.toInt ≤ x0.toInt)
    omega
  · decide
theorem own_fi_4_0_1 {x0 x1 x2 x3 : Int64} {j : Int32} {q : Nat} (hs : own_sorted x0 x1 x2 x3) (hr : own_R 4 0 q) (hq : q ≤ 100) (h : ((x0 ≤ x1) ∧ j = (1 : Int32)) ∨ (∃ (w : Int64), (¬ (x0 ≤ x1)) ∧ (w.toInt = own_c x1 [x0, x1, x2, x3]) ∧ ((((Int32.ofNat q).toInt64) * (4 : Int64)) ≤ ((100 : Int64) * w)) ∧ j = (0 : Int32)) ∨ (∃ (w : Int64), (¬ (x0 ≤ x1)) ∧ (w.toInt = own_c x1 [x0, x1, x2, x3]) ∧ (¬ ((((Int32.ofNat q).toInt64) * (4 : Int64)) ≤ ((100 : Int64) * w))) ∧ j = (1 : Int32))) : ¬ (j = (0 : Int32)) := by
  rcases h with ⟨-, rfl⟩ | ⟨w, a, b, d, -⟩ | ⟨w, -, -, -, rfl⟩
  · decide
  · exfalso
    obtain ⟨s1, s2, s3⟩ := hs
    obtain ⟨r1, r2⟩ := hr
    rw [Int64.le_iff_toInt_le] at a
    simp only [own_c] at b
    have u0 := own_ib (x0.toInt ≤ x1.toInt)
    have u1 := own_ib (x1.toInt ≤ x1.toInt)
    have u2 := own_ib (x2.toInt ≤ x1.toInt)
    have u3 := own_ib (x3.toInt ≤ x1.toInt)
    omega
  · decide
theorem own_fi_4_0_2 {x0 x1 x2 x3 : Int64} {j : Int32} {q : Nat} (hs : own_sorted x0 x1 x2 x3) (hr : own_R 4 0 q) (hq : q ≤ 100) (h : ((x0 ≤ x2) ∧ j = (1 : Int32)) ∨ (∃ (w : Int64), (¬ (x0 ≤ x2)) ∧ (w.toInt = own_c x2 [x0, x1, x2, x3]) ∧ ((((Int32.ofNat q).toInt64) * (4 : Int64)) ≤ ((100 : Int64) * w)) ∧ j = (0 : Int32)) ∨ (∃ (w : Int64), (¬ (x0 ≤ x2)) ∧ (w.toInt = own_c x2 [x0, x1, x2, x3]) ∧ (¬ ((((Int32.ofNat q).toInt64) * (4 : Int64)) ≤ ((100 : Int64) * w))) ∧ j = (1 : Int32))) : ¬ (j = (0 : Int32)) := by
  rcases h with ⟨-, rfl⟩ | ⟨w, a, b, d, -⟩ | ⟨w, -, -, -, rfl⟩
  · decide
  · exfalso
    obtain ⟨s1, s2, s3⟩ := hs
    obtain ⟨r1, r2⟩ := hr
    rw [Int64.le_iff_toInt_le] at a
    simp only [own_c] at b
    have u0 := own_ib (x0.toInt ≤ x2.toInt)
    have u1 := own_ib (x1.toInt ≤ x2.toInt)
    have u2 := own_ib (x2.toInt ≤ x2.toInt)
    have u3 := own_ib (x3.toInt ≤ x2.toInt)
    omega
  · decide
theorem own_fi_4_0_3 {x0 x1 x2 x3 : Int64} {j : Int32} {q : Nat} (hs : own_sorted x0 x1 x2 x3) (hr : own_R 4 0 q) (hq : q ≤ 100) (h : ((x0 ≤ x3) ∧ j = (1 : Int32)) ∨ (∃ (w : Int64), (¬ (x0 ≤ x3)) ∧ (w.toInt = own_c x3 [x0, x1, x2, x3]) ∧ ((((Int32.ofNat q).toInt64) * (4 : Int64)) ≤ ((100 : Int64) * w)) ∧ j = (0 : Int32)) ∨ (∃ (w : Int64), (¬ (x0 ≤ x3)) ∧ (w.toInt = own_c x3 [x0, x1, x2, x3]) ∧ (¬ ((((Int32.ofNat q).toInt64) * (4 : Int64)) ≤ ((100 : Int64) * w))) ∧ j = (1 : Int32))) : ¬ (j = (0 : Int32)) := by
  rcases h with ⟨-, rfl⟩ | ⟨w, a, b, d, -⟩ | ⟨w, -, -, -, rfl⟩
  · decide
  · exfalso
    obtain ⟨s1, s2, s3⟩ := hs
    obtain ⟨r1, r2⟩ := hr
    rw [Int64.le_iff_toInt_le] at a
    simp only [own_c] at b
    have u0 := own_ib (x0.toInt ≤ x3.toInt)
    have u1 := own_ib (x1.toInt ≤ x3.toInt)
    have u2 := own_ib (x2.toInt ≤ x3.toInt)
    have u3 := own_ib (x3.toInt ≤ x3.toInt)
    omega
  · decide
theorem own_en_4_1 {x0 x1 x2 x3 c : Int64} {q : Nat} (hs : own_sorted x0 x1 x2 x3) (hr : own_R 4 1 q) (hq : q ≤ 100) (hc : c.toInt = own_c x1 [x0, x1, x2, x3]) : ¬ (((100 : Int64) * c) < (((Int32.ofNat q).toInt64) * (4 : Int64))) := by
  obtain ⟨s1, s2, s3⟩ := hs
  obtain ⟨r1, r2⟩ := hr
  simp only [own_c] at hc
  have u0 := own_ib (x0.toInt ≤ x1.toInt)
  have u1 := own_ib (x1.toInt ≤ x1.toInt)
  have u2 := own_ib (x2.toInt ≤ x1.toInt)
  have u3 := own_ib (x3.toInt ≤ x1.toInt)
  rw [if_pos (show x0.toInt ≤ x1.toInt by omega)] at hc u0
  rw [if_pos (Int.le_refl _)] at hc u1
  rw [Int64.lt_iff_toInt_lt, own_hund (by omega) (by omega), own_need (N := 4) (by decide) (by decide) (by decide) hq]
  omega
theorem own_fi_4_1_0 {x0 x1 x2 x3 : Int64} {j : Int32} {q : Nat} (hs : own_sorted x0 x1 x2 x3) (hr : own_R 4 1 q) (hq : q ≤ 100) (h : ((x1 ≤ x0) ∧ j = (1 : Int32)) ∨ (∃ (w : Int64), (¬ (x1 ≤ x0)) ∧ (w.toInt = own_c x0 [x0, x1, x2, x3]) ∧ ((((Int32.ofNat q).toInt64) * (4 : Int64)) ≤ ((100 : Int64) * w)) ∧ j = (0 : Int32)) ∨ (∃ (w : Int64), (¬ (x1 ≤ x0)) ∧ (w.toInt = own_c x0 [x0, x1, x2, x3]) ∧ (¬ ((((Int32.ofNat q).toInt64) * (4 : Int64)) ≤ ((100 : Int64) * w))) ∧ j = (1 : Int32))) : ¬ (j = (0 : Int32)) := by
  rcases h with ⟨-, rfl⟩ | ⟨w, a, b, d, -⟩ | ⟨w, -, -, -, rfl⟩
  · decide
  · exfalso
    obtain ⟨s1, s2, s3⟩ := hs
    obtain ⟨r1, r2⟩ := hr
    rw [Int64.le_iff_toInt_le] at a
    simp only [own_c] at b
    have u0 := own_ib (x0.toInt ≤ x0.toInt)
    have u1 := own_ib (x1.toInt ≤ x0.toInt)
    have u2 := own_ib (x2.toInt ≤ x0.toInt)
    have u3 := own_ib (x3.toInt ≤ x0.toInt)
    rw [if_neg (show ¬ (x1.toInt ≤ x0.toInt) by omega)] at b u1
    rw [if_neg (show ¬ (x2.toInt ≤ x0.toInt) by omega)] at b u2
    rw [if_neg (show ¬ (x3.toInt ≤ x0.toInt) by omega)] at b u3
    rw [Int64.le_iff_toInt_le, own_hund (by omega) (by omega), own_need (N := 4) (by decide) (by decide) (by decide) hq] at d
    omega
  · decide
theorem own_fi_4_1_1 {x0 x1 x2 x3 : Int64} {j : Int32} {q : Nat} (hs : own_sorted x0 x1 x2 x3) (hr : own_R 4 1 q) (hq : q ≤ 100) (h : ((x1 ≤ x1) ∧ j = (1 : Int32)) ∨ (∃ (w : Int64), (¬ (x1 ≤ x1)) ∧ (w.toInt = own_c x1 [x0, x1, x2, x3]) ∧ ((((Int32.ofNat q).toInt64) * (4 : Int64)) ≤ ((100 : Int64) * w)) ∧ j = (0 : Int32)) ∨ (∃ (w : Int64), (¬ (x1 ≤ x1)) ∧ (w.toInt = own_c x1 [x0, x1, x2, x3]) ∧ (¬ ((((Int32.ofNat q).toInt64) * (4 : Int64)) ≤ ((100 : Int64) * w))) ∧ j = (1 : Int32))) : ¬ (j = (0 : Int32)) := by
  rcases h with ⟨-, rfl⟩ | ⟨w, a, b, d, -⟩ | ⟨w, -, -, -, rfl⟩
  · decide
  · exfalso
    obtain ⟨s1, s2, s3⟩ := hs
    obtain ⟨r1, r2⟩ := hr
    rw [Int64.le_iff_toInt_le] at a
    simp only [own_c] at b
    have u0 := own_ib (x0.toInt ≤ x1.toInt)
    have u1 := own_ib (x1.toInt ≤ x1.toInt)
    have u2 := own_ib (x2.toInt ≤ x1.toInt)
    have u3 := own_ib (x3.toInt ≤ x1.toInt)
    omega
  · decide
theorem own_fi_4_1_2 {x0 x1 x2 x3 : Int64} {j : Int32} {q : Nat} (hs : own_sorted x0 x1 x2 x3) (hr : own_R 4 1 q) (hq : q ≤ 100) (h : ((x1 ≤ x2) ∧ j = (1 : Int32)) ∨ (∃ (w : Int64), (¬ (x1 ≤ x2)) ∧ (w.toInt = own_c x2 [x0, x1, x2, x3]) ∧ ((((Int32.ofNat q).toInt64) * (4 : Int64)) ≤ ((100 : Int64) * w)) ∧ j = (0 : Int32)) ∨ (∃ (w : Int64), (¬ (x1 ≤ x2)) ∧ (w.toInt = own_c x2 [x0, x1, x2, x3]) ∧ (¬ ((((Int32.ofNat q).toInt64) * (4 : Int64)) ≤ ((100 : Int64) * w))) ∧ j = (1 : Int32))) : ¬ (j = (0 : Int32)) := by
  rcases h with ⟨-, rfl⟩ | ⟨w, a, b, d, -⟩ | ⟨w, -, -, -, rfl⟩
  · decide
  · exfalso
    obtain ⟨s1, s2, s3⟩ := hs
    obtain ⟨r1, r2⟩ := hr
    rw [Int64.le_iff_toInt_le] at a
    simp only [own_c] at b
    have u0 := own_ib (x0.toInt ≤ x2.toInt)
    have u1 := own_ib (x1.toInt ≤ x2.toInt)
    have u2 := own_ib (x2.toInt ≤ x2.toInt)
    have u3 := own_ib (x3.toInt ≤ x2.toInt)
    omega
  · decide
theorem own_fi_4_1_3 {x0 x1 x2 x3 : Int64} {j : Int32} {q : Nat} (hs : own_sorted x0 x1 x2 x3) (hr : own_R 4 1 q) (hq : q ≤ 100) (h : ((x1 ≤ x3) ∧ j = (1 : Int32)) ∨ (∃ (w : Int64), (¬ (x1 ≤ x3)) ∧ (w.toInt = own_c x3 [x0, x1, x2, x3]) ∧ ((((Int32.ofNat q).toInt64) * (4 : Int64)) ≤ ((100 : Int64) * w)) ∧ j = (0 : Int32)) ∨ (∃ (w : Int64), (¬ (x1 ≤ x3)) ∧ (w.toInt = own_c x3 [x0, x1, x2, x3]) ∧ (¬ ((((Int32.ofNat q).toInt64) * (4 : Int64)) ≤ ((100 : Int64) * w))) ∧ j = (1 : Int32))) : ¬ (j = (0 : Int32)) := by
  rcases h with ⟨-, rfl⟩ | ⟨w, a, b, d, -⟩ | ⟨w, -, -, -, rfl⟩
  · decide
  · exfalso
    obtain ⟨s1, s2, s3⟩ := hs
    obtain ⟨r1, r2⟩ := hr
    rw [Int64.le_iff_toInt_le] at a
    simp only [own_c] at b
    have u0 := own_ib (x0.toInt ≤ x3.toInt)
    have u1 := own_ib (x1.toInt ≤ x3.toInt)
    have u2 := own_ib (x2.toInt ≤ x3.toInt)
    have u3 := own_ib (x3.toInt ≤ x3.toInt)
    omega
  · decide
theorem own_en_4_2 {x0 x1 x2 x3 c : Int64} {q : Nat} (hs : own_sorted x0 x1 x2 x3) (hr : own_R 4 2 q) (hq : q ≤ 100) (hc : c.toInt = own_c x2 [x0, x1, x2, x3]) : ¬ (((100 : Int64) * c) < (((Int32.ofNat q).toInt64) * (4 : Int64))) := by
  obtain ⟨s1, s2, s3⟩ := hs
  obtain ⟨r1, r2⟩ := hr
  simp only [own_c] at hc
  have u0 := own_ib (x0.toInt ≤ x2.toInt)
  have u1 := own_ib (x1.toInt ≤ x2.toInt)
  have u2 := own_ib (x2.toInt ≤ x2.toInt)
  have u3 := own_ib (x3.toInt ≤ x2.toInt)
  rw [if_pos (show x0.toInt ≤ x2.toInt by omega)] at hc u0
  rw [if_pos (show x1.toInt ≤ x2.toInt by omega)] at hc u1
  rw [if_pos (Int.le_refl _)] at hc u2
  rw [Int64.lt_iff_toInt_lt, own_hund (by omega) (by omega), own_need (N := 4) (by decide) (by decide) (by decide) hq]
  omega
theorem own_fi_4_2_0 {x0 x1 x2 x3 : Int64} {j : Int32} {q : Nat} (hs : own_sorted x0 x1 x2 x3) (hr : own_R 4 2 q) (hq : q ≤ 100) (h : ((x2 ≤ x0) ∧ j = (1 : Int32)) ∨ (∃ (w : Int64), (¬ (x2 ≤ x0)) ∧ (w.toInt = own_c x0 [x0, x1, x2, x3]) ∧ ((((Int32.ofNat q).toInt64) * (4 : Int64)) ≤ ((100 : Int64) * w)) ∧ j = (0 : Int32)) ∨ (∃ (w : Int64), (¬ (x2 ≤ x0)) ∧ (w.toInt = own_c x0 [x0, x1, x2, x3]) ∧ (¬ ((((Int32.ofNat q).toInt64) * (4 : Int64)) ≤ ((100 : Int64) * w))) ∧ j = (1 : Int32))) : ¬ (j = (0 : Int32)) := by
  rcases h with ⟨-, rfl⟩ | ⟨w, a, b, d, -⟩ | ⟨w, -, -, -, rfl⟩
  · decide
  · exfalso
    obtain ⟨s1, s2, s3⟩ := hs
    obtain ⟨r1, r2⟩ := hr
    rw [Int64.le_iff_toInt_le] at a
    simp only [own_c] at b
    have u0 := own_ib (x0.toInt ≤ x0.toInt)
    have u1 := own_ib (x1.toInt ≤ x0.toInt)
    have u2 := own_ib (x2.toInt ≤ x0.toInt)
    have u3 := own_ib (x3.toInt ≤ x0.toInt)
    rw [if_neg (show ¬ (x2.toInt ≤ x0.toInt) by omega)] at b u2
    rw [if_neg (show ¬ (x3.toInt ≤ x0.toInt) by omega)] at b u3
    rw [Int64.le_iff_toInt_le, own_hund (by omega) (by omega), own_need (N := 4) (by decide) (by decide) (by decide) hq] at d
    omega
  · decide
theorem own_fi_4_2_1 {x0 x1 x2 x3 : Int64} {j : Int32} {q : Nat} (hs : own_sorted x0 x1 x2 x3) (hr : own_R 4 2 q) (hq : q ≤ 100) (h : ((x2 ≤ x1) ∧ j = (1 : Int32)) ∨ (∃ (w : Int64), (¬ (x2 ≤ x1)) ∧ (w.toInt = own_c x1 [x0, x1, x2, x3]) ∧ ((((Int32.ofNat q).toInt64) * (4 : Int64)) ≤ ((100 : Int64) * w)) ∧ j = (0 : Int32)) ∨ (∃ (w : Int64), (¬ (x2 ≤ x1)) ∧ (w.toInt = own_c x1 [x0, x1, x2, x3]) ∧ (¬ ((((Int32.ofNat q).toInt64) * (4 : Int64)) ≤ ((100 : Int64) * w))) ∧ j = (1 : Int32))) : ¬ (j = (0 : Int32)) := by
  rcases h with ⟨-, rfl⟩ | ⟨w, a, b, d, -⟩ | ⟨w, -, -, -, rfl⟩
  · decide
  · exfalso
    obtain ⟨s1, s2, s3⟩ := hs
    obtain ⟨r1, r2⟩ := hr
    rw [Int64.le_iff_toInt_le] at a
    simp only [own_c] at b
    have u0 := own_ib (x0.toInt ≤ x1.toInt)
    have u1 := own_ib (x1.toInt ≤ x1.toInt)
    have u2 := own_ib (x2.toInt ≤ x1.toInt)
    have u3 := own_ib (x3.toInt ≤ x1.toInt)
    rw [if_neg (show ¬ (x2.toInt ≤ x1.toInt) by omega)] at b u2
    rw [if_neg (show ¬ (x3.toInt ≤ x1.toInt) by omega)] at b u3
    rw [Int64.le_iff_toInt_le, own_hund (by omega) (by omega), own_need (N := 4) (by decide) (by decide) (by decide) hq] at d
    omega
  · decide
theorem own_fi_4_2_2 {x0 x1 x2 x3 : Int64} {j : Int32} {q : Nat} (hs : own_sorted x0 x1 x2 x3) (hr : own_R 4 2 q) (hq : q ≤ 100) (h : ((x2 ≤ x2) ∧ j = (1 : Int32)) ∨ (∃ (w : Int64), (¬ (x2 ≤ x2)) ∧ (w.toInt = own_c x2 [x0, x1, x2, x3]) ∧ ((((Int32.ofNat q).toInt64) * (4 : Int64)) ≤ ((100 : Int64) * w)) ∧ j = (0 : Int32)) ∨ (∃ (w : Int64), (¬ (x2 ≤ x2)) ∧ (w.toInt = own_c x2 [x0, x1, x2, x3]) ∧ (¬ ((((Int32.ofNat q).toInt64) * (4 : Int64)) ≤ ((100 : Int64) * w))) ∧ j = (1 : Int32))) : ¬ (j = (0 : Int32)) := by
  rcases h with ⟨-, rfl⟩ | ⟨w, a, b, d, -⟩ | ⟨w, -, -, -, rfl⟩
  · decide
  · exfalso
    obtain ⟨s1, s2, s3⟩ := hs
    obtain ⟨r1, r2⟩ := hr
    rw [Int64.le_iff_toInt_le] at a
    simp only [own_c] at b
    have u0 := own_ib (x0.toInt ≤ x2.toInt)
    have u1 := own_ib (x1.toInt ≤ x2.toInt)
    have u2 := own_ib (x2.toInt ≤ x2.toInt)
    have u3 := own_ib (x3.toInt ≤ x2.toInt)
    omega
  · decide
theorem own_fi_4_2_3 {x0 x1 x2 x3 : Int64} {j : Int32} {q : Nat} (hs : own_sorted x0 x1 x2 x3) (hr : own_R 4 2 q) (hq : q ≤ 100) (h : ((x2 ≤ x3) ∧ j = (1 : Int32)) ∨ (∃ (w : Int64), (¬ (x2 ≤ x3)) ∧ (w.toInt = own_c x3 [x0, x1, x2, x3]) ∧ ((((Int32.ofNat q).toInt64) * (4 : Int64)) ≤ ((100 : Int64) * w)) ∧ j = (0 : Int32)) ∨ (∃ (w : Int64), (¬ (x2 ≤ x3)) ∧ (w.toInt = own_c x3 [x0, x1, x2, x3]) ∧ (¬ ((((Int32.ofNat q).toInt64) * (4 : Int64)) ≤ ((100 : Int64) * w))) ∧ j = (1 : Int32))) : ¬ (j = (0 : Int32)) := by
  rcases h with ⟨-, rfl⟩ | ⟨w, a, b, d, -⟩ | ⟨w, -, -, -, rfl⟩
  · decide
  · exfalso
    obtain ⟨s1, s2, s3⟩ := hs
    obtain ⟨r1, r2⟩ := hr
    rw [Int64.le_iff_toInt_le] at a
    simp only [own_c] at b
    have u0 := own_ib (x0.toInt ≤ x3.toInt)
    have u1 := own_ib (x1.toInt ≤ x3.toInt)
    have u2 := own_ib (x2.toInt ≤ x3.toInt)
    have u3 := own_ib (x3.toInt ≤ x3.toInt)
    omega
  · decide
theorem own_en_4_3 {x0 x1 x2 x3 c : Int64} {q : Nat} (hs : own_sorted x0 x1 x2 x3) (hr : own_R 4 3 q) (hq : q ≤ 100) (hc : c.toInt = own_c x3 [x0, x1, x2, x3]) : ¬ (((100 : Int64) * c) < (((Int32.ofNat q).toInt64) * (4 : Int64))) := by
  obtain ⟨s1, s2, s3⟩ := hs
  obtain ⟨r1, r2⟩ := hr
  simp only [own_c] at hc
  have u0 := own_ib (x0.toInt ≤ x3.toInt)
  have u1 := own_ib (x1.toInt ≤ x3.toInt)
  have u2 := own_ib (x2.toInt ≤ x3.toInt)
  have u3 := own_ib (x3.toInt ≤ x3.toInt)
  rw [if_pos (show x0.toInt ≤ x3.toInt by omega)] at hc u0
  rw [if_pos (show x1.toInt ≤ x3.toInt by omega)] at hc u1
  rw [if_pos (show x2.toInt ≤ x3.toInt by omega)] at hc u2
  rw [if_pos (Int.le_refl _)] at hc u3
  rw [Int64.lt_iff_toInt_lt, own_hund (by omega) (by omega), own_need (N := 4) (by decide) (by decide) (by decide) hq]
  omega
theorem own_fi_4_3_0 {x0 x1 x2 x3 : Int64} {j : Int32} {q : Nat} (hs : own_sorted x0 x1 x2 x3) (hr : own_R 4 3 q) (hq : q ≤ 100) (h : ((x3 ≤ x0) ∧ j = (1 : Int32)) ∨ (∃ (w : Int64), (¬ (x3 ≤ x0)) ∧ (w.toInt = own_c x0 [x0, x1, x2, x3]) ∧ ((((Int32.ofNat q).toInt64) * (4 : Int64)) ≤ ((100 : Int64) * w)) ∧ j = (0 : Int32)) ∨ (∃ (w : Int64), (¬ (x3 ≤ x0)) ∧ (w.toInt = own_c x0 [x0, x1, x2, x3]) ∧ (¬ ((((Int32.ofNat q).toInt64) * (4 : Int64)) ≤ ((100 : Int64) * w))) ∧ j = (1 : Int32))) : ¬ (j = (0 : Int32)) := by
  rcases h with ⟨-, rfl⟩ | ⟨w, a, b, d, -⟩ | ⟨w, -, -, -, rfl⟩
  · decide
  · exfalso
    obtain ⟨s1, s2, s3⟩ := hs
    obtain ⟨r1, r2⟩ := hr
    rw [Int64.le_iff_toInt_le] at a
    simp only [own_c] at b
    have u0 := own_ib (x0.toInt ≤ x0.toInt)
    have u1 := own_ib (x1.toInt ≤ x0.toInt)
    have u2 := own_ib (x2.toInt ≤ x0.toInt)
    have u3 := own_ib (x3.toInt ≤ x0.toInt)
    rw [if_neg (show ¬ (x3.toInt ≤ x0.toInt) by omega)] at b u3
    rw [Int64.le_iff_toInt_le, own_hund (by omega) (by omega), own_need (N := 4) (by decide) (by decide) (by decide) hq] at d
    omega
  · decide
theorem own_fi_4_3_1 {x0 x1 x2 x3 : Int64} {j : Int32} {q : Nat} (hs : own_sorted x0 x1 x2 x3) (hr : own_R 4 3 q) (hq : q ≤ 100) (h : ((x3 ≤ x1) ∧ j = (1 : Int32)) ∨ (∃ (w : Int64), (¬ (x3 ≤ x1)) ∧ (w.toInt = own_c x1 [x0, x1, x2, x3]) ∧ ((((Int32.ofNat q).toInt64) * (4 : Int64)) ≤ ((100 : Int64) * w)) ∧ j = (0 : Int32)) ∨ (∃ (w : Int64), (¬ (x3 ≤ x1)) ∧ (w.toInt = own_c x1 [x0, x1, x2, x3]) ∧ (¬ ((((Int32.ofNat q).toInt64) * (4 : Int64)) ≤ ((100 : Int64) * w))) ∧ j = (1 : Int32))) : ¬ (j = (0 : Int32)) := by
  rcases h with ⟨-, rfl⟩ | ⟨w, a, b, d, -⟩ | ⟨w, -, -, -, rfl⟩
  · decide
  · exfalso
    obtain ⟨s1, s2, s3⟩ := hs
    obtain ⟨r1, r2⟩ := hr
    rw [Int64.le_iff_toInt_le] at a
    simp only [own_c] at b
    have u0 := own_ib (x0.toInt ≤ x1.toInt)
    have u1 := own_ib (x1.toInt ≤ x1.toInt)
    have u2 := own_ib (x2.toInt ≤ x1.toInt)
    have u3 := own_ib (x3.toInt ≤ x1.toInt)
    rw [if_neg (show ¬ (x3.toInt ≤ x1.toInt) by omega)] at b u3
    rw [Int64.le_iff_toInt_le, own_hund (by omega) (by omega), own_need (N := 4) (by decide) (by decide) (by decide) hq] at d
    omega
  · decide
theorem own_fi_4_3_2 {x0 x1 x2 x3 : Int64} {j : Int32} {q : Nat} (hs : own_sorted x0 x1 x2 x3) (hr : own_R 4 3 q) (hq : q ≤ 100) (h : ((x3 ≤ x2) ∧ j = (1 : Int32)) ∨ (∃ (w : Int64), (¬ (x3 ≤ x2)) ∧ (w.toInt = own_c x2 [x0, x1, x2, x3]) ∧ ((((Int32.ofNat q).toInt64) * (4 : Int64)) ≤ ((100 : Int64) * w)) ∧ j = (0 : Int32)) ∨ (∃ (w : Int64), (¬ (x3 ≤ x2)) ∧ (w.toInt = own_c x2 [x0, x1, x2, x3]) ∧ (¬ ((((Int32.ofNat q).toInt64) * (4 : Int64)) ≤ ((100 : Int64) * w))) ∧ j = (1 : Int32))) : ¬ (j = (0 : Int32)) := by
  rcases h with ⟨-, rfl⟩ | ⟨w, a, b, d, -⟩ | ⟨w, -, -, -, rfl⟩
  · decide
  · exfalso
    obtain ⟨s1, s2, s3⟩ := hs
    obtain ⟨r1, r2⟩ := hr
    rw [Int64.le_iff_toInt_le] at a
    simp only [own_c] at b
    have u0 := own_ib (x0.toInt ≤ x2.toInt)
    have u1 := own_ib (x1.toInt ≤ x2.toInt)
    have u2 := own_ib (x2.toInt ≤ x2.toInt)
    have u3 := own_ib (x3.toInt ≤ x2.toInt)
    rw [if_neg (show ¬ (x3.toInt ≤ x2.toInt) by omega)] at b u3
    rw [Int64.le_iff_toInt_le, own_hund (by omega) (by omega), own_need (N := 4) (by decide) (by decide) (by decide) hq] at d
    omega
  · decide
theorem own_fi_4_3_3 {x0 x1 x2 x3 : Int64} {j : Int32} {q : Nat} (hs : own_sorted x0 x1 x2 x3) (hr : own_R 4 3 q) (hq : q ≤ 100) (h : ((x3 ≤ x3) ∧ j = (1 : Int32)) ∨ (∃ (w : Int64), (¬ (x3 ≤ x3)) ∧ (w.toInt = own_c x3 [x0, x1, x2, x3]) ∧ ((((Int32.ofNat q).toInt64) * (4 : Int64)) ≤ ((100 : Int64) * w)) ∧ j = (0 : Int32)) ∨ (∃ (w : Int64), (¬ (x3 ≤ x3)) ∧ (w.toInt = own_c x3 [x0, x1, x2, x3]) ∧ (¬ ((((Int32.ofNat q).toInt64) * (4 : Int64)) ≤ ((100 : Int64) * w))) ∧ j = (1 : Int32))) : ¬ (j = (0 : Int32)) := by
  rcases h with ⟨-, rfl⟩ | ⟨w, a, b, d, -⟩ | ⟨w, -, -, -, rfl⟩
  · decide
  · exfalso
    obtain ⟨s1, s2, s3⟩ := hs
    obtain ⟨r1, r2⟩ := hr
    rw [Int64.le_iff_toInt_le] at a
    simp only [own_c] at b
    have u0 := own_ib (x0.toInt ≤ x3.toInt)
    have u1 := own_ib (x1.toInt ≤ x3.toInt)
    have u2 := own_ib (x2.toInt ≤ x3.toInt)
    have u3 := own_ib (x3.toInt ≤ x3.toInt)
    omega
  · decide
theorem d1_0 : decode jdk_29_method_70_code 0 = .ok (.lload_n 0, 1) := by decide +kernel
theorem d1_1 : decode jdk_29_method_70_code 1 = .ok (.lload_n 2, 1) := by decide +kernel
theorem d1_2 : decode jdk_29_method_70_code 2 = .ok (.lcmp, 1) := by decide +kernel
theorem d1_3 : decode jdk_29_method_70_code 3 = .ok (.ifCond .gt 7, 3) := by decide +kernel
theorem d1_6 : decode jdk_29_method_70_code 6 = .ok (.lload_n 0, 1) := by decide +kernel
theorem d1_7 : decode jdk_29_method_70_code 7 = .ok (.goto 4, 3) := by decide +kernel
theorem d1_10 : decode jdk_29_method_70_code 10 = .ok (.lload_n 2, 1) := by decide +kernel
theorem d1_11 : decode jdk_29_method_70_code 11 = .ok (.lreturn, 1) := by decide +kernel
set_option maxRecDepth 65536 in
set_option maxHeartbeats 40000000 in
theorem rm1 (l : Launch) (Z : State) (a0 : Array Value) (n0 : Nat) (hw : ∀ d ∈ tables_1, d.before a0 Z = true) (ws : List Jvm.Cond) (q1 : Int64) (q2 : Int64) (Ob : List OObj) (Ax : List OArr) : Con l Z a0 n0 ws (⟨"java/lang/Math", "min", "(JJ)J"⟩ : MethodName) jdk_29_method_70_code 4 (some .long) ({ frames := 0, cells := 0, slots := 0, locals := 0 } : Room) #[(.long q1), (.long q2)] (Ob, Ax) (fun vq Dq => ∃ (j3 : Int64), ((((q2 < q1) ∧ j3 = q2) ∨ ((¬ (q2 < q1)) ∧ j3 = q1))) ∧ vq = (some (.long j3)) ∧ Dq = (Ob, Ax)) := by
  refine Con.of_run (Jvm.Free.JP.mathPlain rfl (by decide +kernel)) (L0 := #[.val (.long q1), .second, .val (.long q2), .second]) (fun m => by first | (simp [entryFrame, mkF, argsToLocals, Value.category]; done) | rfl) ?_
  intro p e s m below meth c K
  refine Run.lloadN K d1_0 (pc' := 1) rfl rfl ?_
  refine Run.lloadN K d1_1 (pc' := 2) rfl rfl ?_
  refine Run.lcmp K d1_2 (pc' := 3) rfl ?_
  refine Run.join1 (F := fun (j7 : Int64) => ((q2 < q1) ∧ j7 = q2) ∨ ((¬ (q2 < q1)) ∧ j7 = q1)) (D' := fun (j7 : Int64) => (Ob, Ax)) (cells' := 0) (slots' := 0) (pc' := 11) (L' := fun (j7 : Int64) => #[.val (.long q1), .second, .val (.long q2), .second]) (S' := fun (j7 : Int64) => [(.long j7)]) ?_ (fun J3 => ?_)
  · intro j7 hjj7
    exact Run.retJ K d1_11 rfl (by decide) (by decide) ⟨j7, hjj7, rfl, rfl⟩
  · skip
    refine Run.ifL K d1_3 (pT := 10) (pF := 6) (by decide) (by decide) rfl (fun (h3_7 : q2 < q1) => ?_) (fun (h3_7 : ¬ (q2 < q1)) => ?_)
    · skip
      refine Run.lloadN K d1_10 (pc' := 11) rfl rfl ?_
      exact J3 _ (Or.inl ⟨h3_7, rfl⟩)
    · skip
      refine Run.lloadN K d1_6 (pc' := 7) rfl rfl ?_
      refine Run.goto K d1_7 (pc' := 11) (by decide) (by decide) ?_
      exact J3 _ (Or.inr (⟨h3_7, rfl⟩))
theorem d2_0 : decode jdk_29_method_66_code 0 = .ok (.lload_n 0, 1) := by decide +kernel
theorem d2_1 : decode jdk_29_method_66_code 1 = .ok (.lload_n 2, 1) := by decide +kernel
theorem d2_2 : decode jdk_29_method_66_code 2 = .ok (.lcmp, 1) := by decide +kernel
theorem d2_3 : decode jdk_29_method_66_code 3 = .ok (.ifCond .lt 7, 3) := by decide +kernel
theorem d2_6 : decode jdk_29_method_66_code 6 = .ok (.lload_n 0, 1) := by decide +kernel
theorem d2_7 : decode jdk_29_method_66_code 7 = .ok (.goto 4, 3) := by decide +kernel
theorem d2_10 : decode jdk_29_method_66_code 10 = .ok (.lload_n 2, 1) := by decide +kernel
theorem d2_11 : decode jdk_29_method_66_code 11 = .ok (.lreturn, 1) := by decide +kernel
set_option maxRecDepth 65536 in
set_option maxHeartbeats 40000000 in
theorem rm2 (l : Launch) (Z : State) (a0 : Array Value) (n0 : Nat) (hw : ∀ d ∈ tables_1, d.before a0 Z = true) (ws : List Jvm.Cond) (q1 : Int64) (q2 : Int64) (Ob : List OObj) (Ax : List OArr) : Con l Z a0 n0 ws (⟨"java/lang/Math", "max", "(JJ)J"⟩ : MethodName) jdk_29_method_66_code 4 (some .long) ({ frames := 0, cells := 0, slots := 0, locals := 0 } : Room) #[(.long q1), (.long q2)] (Ob, Ax) (fun vq Dq => ∃ (j11 : Int64), ((((q1 < q2) ∧ j11 = q2) ∨ ((¬ (q1 < q2)) ∧ j11 = q1))) ∧ vq = (some (.long j11)) ∧ Dq = (Ob, Ax)) := by
  refine Con.of_run (Jvm.Free.JP.mathPlain rfl (by decide +kernel)) (L0 := #[.val (.long q1), .second, .val (.long q2), .second]) (fun m => by first | (simp [entryFrame, mkF, argsToLocals, Value.category]; done) | rfl) ?_
  intro p e s m below meth c K
  refine Run.lloadN K d2_0 (pc' := 1) rfl rfl ?_
  refine Run.lloadN K d2_1 (pc' := 2) rfl rfl ?_
  refine Run.lcmp K d2_2 (pc' := 3) rfl ?_
  refine Run.join1 (F := fun (j15 : Int64) => ((q1 < q2) ∧ j15 = q2) ∨ ((¬ (q1 < q2)) ∧ j15 = q1)) (D' := fun (j15 : Int64) => (Ob, Ax)) (cells' := 0) (slots' := 0) (pc' := 11) (L' := fun (j15 : Int64) => #[.val (.long q1), .second, .val (.long q2), .second]) (S' := fun (j15 : Int64) => [(.long j15)]) ?_ (fun J3 => ?_)
  · intro j15 hjj15
    exact Run.retJ K d2_11 rfl (by decide) (by decide) ⟨j15, hjj15, rfl, rfl⟩
  · skip
    refine Run.ifL K d2_3 (pT := 10) (pF := 6) (by decide) (by decide) rfl (fun (h3_15 : q1 < q2) => ?_) (fun (h3_15 : ¬ (q1 < q2)) => ?_)
    · skip
      refine Run.lloadN K d2_10 (pc' := 11) rfl rfl ?_
      exact J3 _ (Or.inl ⟨h3_15, rfl⟩)
    · skip
      refine Run.lloadN K d2_6 (pc' := 7) rfl rfl ?_
      refine Run.goto K d2_7 (pc' := 11) (by decide) (by decide) ?_
      exact J3 _ (Or.inr (⟨h3_15, rfl⟩))
theorem d3_0 : decode prog_3_method_3_code 0 = .ok (.lconst 0, 1) := by decide +kernel
theorem d3_1 : decode prog_3_method_3_code 1 = .ok (.lstore_n 2, 1) := by decide +kernel
theorem d3_2 : decode prog_3_method_3_code 2 = .ok (.aload_n 0, 1) := by decide +kernel
theorem d3_3 : decode prog_3_method_3_code 3 = .ok (.arraylength, 1) := by decide +kernel
theorem d3_4 : decode prog_3_method_3_code 4 = .ok (.ifCond .le 31, 3) := by decide +kernel
theorem d3_7 : decode prog_3_method_3_code 7 = .ok (.aload_n 0, 1) := by decide +kernel
theorem d3_8 : decode prog_3_method_3_code 8 = .ok (.arraylength, 1) := by decide +kernel
theorem d3_9 : decode prog_3_method_3_code 9 = .ok (.i2l, 1) := by decide +kernel
theorem d3_10 : decode prog_3_method_3_code 10 = .ok (.iload_n 1, 1) := by decide +kernel
theorem d3_11 : decode prog_3_method_3_code 11 = .ok (.i2l, 1) := by decide +kernel
theorem d3_12 : decode prog_3_method_3_code 12 = .ok (.lmul, 1) := by decide +kernel
theorem d3_13 : decode prog_3_method_3_code 13 = .ok (.ldc2_w 67, 3) := by decide +kernel
theorem d3_16 : decode prog_3_method_3_code 16 = .ok (.ladd, 1) := by decide +kernel
theorem d3_17 : decode prog_3_method_3_code 17 = .ok (.ldc2_w 69, 3) := by decide +kernel
theorem d3_20 : decode prog_3_method_3_code 20 = .ok (.ldiv, 1) := by decide +kernel
theorem d3_21 : decode prog_3_method_3_code 21 = .ok (.lstore 4, 2) := by decide +kernel
theorem d3_23 : decode prog_3_method_3_code 23 = .ok (.aload_n 0, 1) := by decide +kernel
theorem d3_24 : decode prog_3_method_3_code 24 = .ok (.lload 4, 2) := by decide +kernel
theorem d3_26 : decode prog_3_method_3_code 26 = .ok (.lconst 1, 1) := by decide +kernel
theorem d3_27 : decode prog_3_method_3_code 27 = .ok (.invokestatic 71, 3) := by decide +kernel
theorem d3_30 : decode prog_3_method_3_code 30 = .ok (.l2i, 1) := by decide +kernel
theorem d3_31 : decode prog_3_method_3_code 31 = .ok (.iconst 1, 1) := by decide +kernel
theorem d3_32 : decode prog_3_method_3_code 32 = .ok (.isub, 1) := by decide +kernel
theorem d3_33 : decode prog_3_method_3_code 33 = .ok (.laload, 1) := by decide +kernel
theorem d3_34 : decode prog_3_method_3_code 34 = .ok (.lstore_n 2, 1) := by decide +kernel
theorem d3_35 : decode prog_3_method_3_code 35 = .ok (.lload_n 2, 1) := by decide +kernel
theorem d3_36 : decode prog_3_method_3_code 36 = .ok (.lreturn, 1) := by decide +kernel
theorem pn_0 : plainName "com/example/claim_queue/claimqueue/bench/Report" = true := by first | (simp [plainName, overriddenIn]; done) | decide +kernel
set_option maxRecDepth 65536 in
set_option maxHeartbeats 40000000 in
theorem pc_0 (l : Launch) (Z : State) (a0 : Array Value) (n0 : Nat) (hw : ∀ d ∈ tables_1, d.before a0 Z = true) (ws : List Jvm.Cond) (a1 : Addr) (p1 : Int32) (q : Nat) (Ob : List OObj) (Ax : List OArr) (e1 : p1 = Int32.ofNat q) (hq : q ≤ 100) : Con l Z a0 n0 ws (⟨"com/example/claim_queue/claimqueue/bench/Report", "percentile", "([JI)J"⟩ : MethodName) prog_3_method_3_code 6 (some .long) ({ frames := 0, cells := 0, slots := 0, locals := 0 } : Room) #[(.ref a1), (.int p1)] (Ob, (a1, .long, []) :: Ax) (Ret (some (.long (0 : Int64))) (Ob, (a1, .long, []) :: Ax)) := by
  refine Con.of_run (plainFor_of_name pn_0) (L0 := #[.val (.ref a1), .val (.int p1), .unset, .unset, .unset, .unset]) (fun m => by first | (simp [entryFrame, mkF, argsToLocals, Value.category]; done) | rfl) ?_
  intro p e s m below meth c K
  subst e1
  refine Run.lconst K d3_0 (pc' := 1) rfl (v := (0 : Int64)) rfl ?_
  refine Run.lstoreN K d3_1 (pc' := 2) rfl (L' := #[.val (.ref a1), .val (.int (Int32.ofNat q)), .val (.long (0 : Int64)), .second, .unset, .unset]) rfl ?_
  refine Run.aloadN K d3_2 (pc' := 3) rfl rfl rfl ?_
  refine Run.alen K d3_3 (pc' := 4) rfl (i := 0) rfl (w := (0 : Int32)) (rfl) ?_
  refine Run.ifcT K d3_4 (pT := 35) (pF := 7) (by decide) (by decide) rfl (show (0 : Int32) ≤ (0 : Int32) from by decide) ?_
  refine Run.lloadN K d3_35 (pc' := 36) rfl rfl ?_
  exact Run.retJ K d3_36 rfl (by decide) (by decide) ⟨rfl, rfl⟩
theorem pd_0 : parseMethodDescriptor "(JJ)J" = some ⟨[.long, .long], some .long⟩ := by decide +kernel
set_option maxRecDepth 65536 in
set_option maxHeartbeats 40000000 in
theorem pc_1 (l : Launch) (Z : State) (a0 : Array Value) (n0 : Nat) (hw : ∀ d ∈ tables_1, d.before a0 Z = true) (ws : List Jvm.Cond) (a1 : Addr) (p1 : Int32) (y0 : Int64) (q : Nat) (Ob : List OObj) (Ax : List OArr) (e1 : p1 = Int32.ofNat q) (hq : q ≤ 100) : Con l Z a0 n0 ws (⟨"com/example/claim_queue/claimqueue/bench/Report", "percentile", "([JI)J"⟩ : MethodName) prog_3_method_3_code 6 (some .long) ({ frames := 1, cells := 0, slots := 0, locals := 16 } : Room) #[(.ref a1), (.int p1)] (Ob, (a1, .long, [(.long y0)]) :: Ax) (fun vq Dq => ∃ (c17 : Int64), (((((((((1 : Int64) * ((Int32.ofNat q).toInt64)) + (99 : Int64)) / (100 : Int64)) < (1 : Int64)) ∧ c17 = (1 : Int64)) ∨ ((¬ (((((1 : Int64) * ((Int32.ofNat q).toInt64)) + (99 : Int64)) / (100 : Int64)) < (1 : Int64))) ∧ c17 = ((((1 : Int64) * ((Int32.ofNat q).toInt64)) + (99 : Int64)) / (100 : Int64))))) ∧ (((c17.toInt32) - (1 : Int32)) = (0 : Int32))) ∧ vq = (some (.long y0)) ∧ Dq = (Ob, (a1, .long, [(.long y0)]) :: Ax)) := by
  refine Con.of_run (plainFor_of_name pn_0) (L0 := #[.val (.ref a1), .val (.int p1), .unset, .unset, .unset, .unset]) (fun m => by first | (simp [entryFrame, mkF, argsToLocals, Value.category]; done) | rfl) ?_
  intro p e s m below meth c K
  subst e1
  refine Run.lconst K d3_0 (pc' := 1) rfl (v := (0 : Int64)) rfl ?_
  refine Run.lstoreN K d3_1 (pc' := 2) rfl (L' := #[.val (.ref a1), .val (.int (Int32.ofNat q)), .val (.long (0 : Int64)), .second, .unset, .unset]) rfl ?_
  refine Run.aloadN K d3_2 (pc' := 3) rfl rfl rfl ?_
  refine Run.alen K d3_3 (pc' := 4) rfl (i := 0) rfl (w := (1 : Int32)) (rfl) ?_
  refine Run.ifcF K d3_4 (pT := 35) (pF := 7) (by decide) (by decide) rfl (show ¬ ((1 : Int32) ≤ (0 : Int32)) from by decide) ?_
  refine Run.aloadN K d3_7 (pc' := 8) rfl rfl rfl ?_
  refine Run.alen K d3_8 (pc' := 9) rfl (i := 0) rfl (w := (1 : Int32)) (rfl) ?_
  refine Run.i2lV K d3_9 (pc' := 10) rfl (v := (1 : Int64)) (by decide) ?_
  refine Run.iloadN K d3_10 (pc' := 11) rfl rfl ?_
  refine Run.i2l K d3_11 (pc' := 12) rfl ?_
  refine Run.lmul K d3_12 (pc' := 13) rfl ?_
  refine Run.ldcJ K d3_13 (pc' := 16) rfl (v := (99 : Int64)) (hw _ (List.mem_of_getElem? (i := 13) rfl)) ?_
  refine Run.ladd K d3_16 (pc' := 17) rfl ?_
  refine Run.ldcJ K d3_17 (pc' := 20) rfl (v := (100 : Int64)) (hw _ (List.mem_of_getElem? (i := 14) rfl)) ?_
  refine Run.ldiv K d3_20 (pc' := 21) rfl (by decide) ?_
  refine Run.lstore K d3_21 (pc' := 23) rfl (L' := #[.val (.ref a1), .val (.int (Int32.ofNat q)), .val (.long (0 : Int64)), .second, .val (.long ((((1 : Int64) * ((Int32.ofNat q).toInt64)) + (99 : Int64)) / (100 : Int64))), .second]) rfl ?_
  refine Run.aloadN K d3_23 (pc' := 24) rfl rfl rfl ?_
  refine Run.lload K d3_24 (pc' := 26) rfl rfl ?_
  refine Run.lconst K d3_26 (pc' := 27) rfl (v := (1 : Int64)) rfl ?_
  refine Run.callS K d3_27 (pc' := 30) rfl (hw _ (List.mem_of_getElem? (i := 15) rfl)) (hw _ (List.mem_of_getElem? (i := 6) rfl)) (hw _ (List.mem_of_getElem? (i := 3) rfl)) (hw _ (List.mem_of_getElem? (i := 7) rfl)) (by decide) (rm2 l Z a0 n0 hw [] (((((1 : Int64) * ((Int32.ofNat q).toInt64)) + (99 : Int64)) / (100 : Int64))) ((1 : Int64)) (Ob) ((a1, .long, [(.long y0)]) :: Ax) ) (argsL := [(.long ((((1 : Int64) * ((Int32.ofNat q).toInt64)) + (99 : Int64)) / (100 : Int64))), (.long (1 : Int64))]) (rest := [(.ref a1)]) rfl rfl pd_0 rfl (W := 1) rfl (by decide) (by decide) (cells' := 0) (slots' := 0) rfl rfl (by decide) (by decide) ?_
  intro vq Dq hq
  obtain ⟨c20, hc21, rfl, rfl⟩ := hq
  refine Run.as2 (D' := (Ob, (a1, .long, [(.long y0)]) :: Ax)) (S' := [(.long c20), (.ref a1)]) rfl rfl ?_
  refine Run.l2i K d3_30 (pc' := 31) rfl ?_
  refine Run.iconst K d3_31 (pc' := 32) rfl (v := (1 : Int32)) rfl ?_
  refine Run.isub K d3_32 (pc' := 33) rfl ?_
  rcases (own_ix1 hq hc21 : ((c20.toInt32) - (1 : Int32)) = (0 : Int32)) with hq22
  · rw [hq22]
    refine Run.laload K d3_33 (pc' := 34) rfl (i := 0) (q := 0) rfl (by decide) (by decide) (v := (.long y0)) (rfl) ?_
    refine Run.lstoreN K d3_34 (pc' := 35) rfl (L' := #[.val (.ref a1), .val (.int (Int32.ofNat q)), .val (.long y0), .second, .val (.long ((((1 : Int64) * ((Int32.ofNat q).toInt64)) + (99 : Int64)) / (100 : Int64))), .second]) rfl ?_
    refine Run.lloadN K d3_35 (pc' := 36) rfl rfl ?_
    exact Run.retJ K d3_36 rfl (by decide) (by decide) ⟨c20, ⟨hc21, hq22⟩, rfl, rfl⟩
theorem d4_0 : decode method_3_code 0 = .ok (.lconst 0, 1) := by decide +kernel
theorem d4_1 : decode method_3_code 1 = .ok (.lstore 11, 2) := by decide +kernel
theorem d4_3 : decode method_3_code 3 = .ok (.iload_n 2, 1) := by decide +kernel
theorem d4_4 : decode method_3_code 4 = .ok (.ifCond .le 15, 3) := by decide +kernel
theorem d4_7 : decode method_3_code 7 = .ok (.lload_n 3, 1) := by decide +kernel
theorem d4_8 : decode method_3_code 8 = .ok (.lload_n 0, 1) := by decide +kernel
theorem d4_9 : decode method_3_code 9 = .ok (.lcmp, 1) := by decide +kernel
theorem d4_10 : decode method_3_code 10 = .ok (.ifCond .gt 9, 3) := by decide +kernel
theorem d4_13 : decode method_3_code 13 = .ok (.lload 11, 2) := by decide +kernel
theorem d4_15 : decode method_3_code 15 = .ok (.lconst 1, 1) := by decide +kernel
theorem d4_16 : decode method_3_code 16 = .ok (.ladd, 1) := by decide +kernel
theorem d4_17 : decode method_3_code 17 = .ok (.lstore 11, 2) := by decide +kernel
theorem d4_19 : decode method_3_code 19 = .ok (.iload_n 2, 1) := by decide +kernel
theorem d4_20 : decode method_3_code 20 = .ok (.iconst 1, 1) := by decide +kernel
theorem d4_21 : decode method_3_code 21 = .ok (.if_icmp .le 16, 3) := by decide +kernel
theorem d4_24 : decode method_3_code 24 = .ok (.lload 5, 2) := by decide +kernel
theorem d4_26 : decode method_3_code 26 = .ok (.lload_n 0, 1) := by decide +kernel
theorem d4_27 : decode method_3_code 27 = .ok (.lcmp, 1) := by decide +kernel
theorem d4_28 : decode method_3_code 28 = .ok (.ifCond .gt 9, 3) := by decide +kernel
theorem d4_31 : decode method_3_code 31 = .ok (.lload 11, 2) := by decide +kernel
theorem d4_33 : decode method_3_code 33 = .ok (.lconst 1, 1) := by decide +kernel
theorem d4_34 : decode method_3_code 34 = .ok (.ladd, 1) := by decide +kernel
theorem d4_35 : decode method_3_code 35 = .ok (.lstore 11, 2) := by decide +kernel
theorem d4_37 : decode method_3_code 37 = .ok (.iload_n 2, 1) := by decide +kernel
theorem d4_38 : decode method_3_code 38 = .ok (.iconst 2, 1) := by decide +kernel
theorem d4_39 : decode method_3_code 39 = .ok (.if_icmp .le 16, 3) := by decide +kernel
theorem d4_42 : decode method_3_code 42 = .ok (.lload 7, 2) := by decide +kernel
theorem d4_44 : decode method_3_code 44 = .ok (.lload_n 0, 1) := by decide +kernel
theorem d4_45 : decode method_3_code 45 = .ok (.lcmp, 1) := by decide +kernel
theorem d4_46 : decode method_3_code 46 = .ok (.ifCond .gt 9, 3) := by decide +kernel
theorem d4_49 : decode method_3_code 49 = .ok (.lload 11, 2) := by decide +kernel
theorem d4_51 : decode method_3_code 51 = .ok (.lconst 1, 1) := by decide +kernel
theorem d4_52 : decode method_3_code 52 = .ok (.ladd, 1) := by decide +kernel
theorem d4_53 : decode method_3_code 53 = .ok (.lstore 11, 2) := by decide +kernel
theorem d4_55 : decode method_3_code 55 = .ok (.iload_n 2, 1) := by decide +kernel
theorem d4_56 : decode method_3_code 56 = .ok (.iconst 3, 1) := by decide +kernel
theorem d4_57 : decode method_3_code 57 = .ok (.if_icmp .le 16, 3) := by decide +kernel
theorem d4_60 : decode method_3_code 60 = .ok (.lload 9, 2) := by decide +kernel
theorem d4_62 : decode method_3_code 62 = .ok (.lload_n 0, 1) := by decide +kernel
theorem d4_63 : decode method_3_code 63 = .ok (.lcmp, 1) := by decide +kernel
theorem d4_64 : decode method_3_code 64 = .ok (.ifCond .gt 9, 3) := by decide +kernel
theorem d4_67 : decode method_3_code 67 = .ok (.lload 11, 2) := by decide +kernel
theorem d4_69 : decode method_3_code 69 = .ok (.lconst 1, 1) := by decide +kernel
theorem d4_70 : decode method_3_code 70 = .ok (.ladd, 1) := by decide +kernel
theorem d4_71 : decode method_3_code 71 = .ok (.lstore 11, 2) := by decide +kernel
theorem d4_73 : decode method_3_code 73 = .ok (.lload 11, 2) := by decide +kernel
theorem d4_75 : decode method_3_code 75 = .ok (.lreturn, 1) := by decide +kernel
theorem pn_1 : plainName "com/example/claim_queue/claimqueue/bench/ReportPercentilePinLaw" = true := by first | (simp [plainName, overriddenIn]; done) | decide +kernel
set_option maxRecDepth 65536 in
set_option maxHeartbeats 40000000 in
theorem cnt_1 (l : Launch) (Z : State) (a0 : Array Value) (n0 : Nat) (hw : ∀ d ∈ tables_1, d.before a0 Z = true) (ws : List Jvm.Cond) (p1 : Int64) (p2 : Int32) (x0 : Int64) (x1 : Int64) (x2 : Int64) (x3 : Int64) (Ob : List OObj) (Ax : List OArr) (e1 : p2 = (1 : Int32)) : Con l Z a0 n0 ws (⟨"com/example/claim_queue/claimqueue/bench/ReportPercentilePinLaw", "cnt", "(JIJJJJ)J"⟩ : MethodName) method_3_code 13 (some .long) ({ frames := 0, cells := 0, slots := 0, locals := 0 } : Room) #[(.long p1), (.int p2), (.long x0), (.long x1), (.long x2), (.long x3)] (Ob, Ax) (fun vq Dq => ∃ (w : Int64), (w.toInt = own_c p1 [x0]) ∧ vq = (some (.long w)) ∧ Dq = (Ob, Ax)) := by
  refine Con.of_run (plainFor_of_name pn_1) (L0 := #[.val (.long p1), .second, .val (.int p2), .val (.long x0), .second, .val (.long x1), .second, .val (.long x2), .second, .val (.long x3), .second, .unset, .unset]) (fun m => by first | (simp [entryFrame, mkF, argsToLocals, Value.category]; done) | rfl) ?_
  intro p e s m below meth c K
  subst e1
  refine Run.lconst K d4_0 (pc' := 1) rfl (v := (0 : Int64)) rfl ?_
  refine Run.lstore K d4_1 (pc' := 3) rfl (L' := #[.val (.long p1), .second, .val (.int (1 : Int32)), .val (.long x0), .second, .val (.long x1), .second, .val (.long x2), .second, .val (.long x3), .second, .val (.long (0 : Int64)), .second]) rfl ?_
  refine Run.iloadN K d4_3 (pc' := 4) rfl rfl ?_
  refine Run.ifcF K d4_4 (pT := 19) (pF := 7) (by decide) (by decide) rfl (show ¬ ((1 : Int32) ≤ (0 : Int32)) from by decide) ?_
  refine Run.lloadN K d4_7 (pc' := 8) rfl rfl ?_
  refine Run.lloadN K d4_8 (pc' := 9) rfl rfl ?_
  refine Run.lcmp K d4_9 (pc' := 10) rfl ?_
  refine Run.join1 (F := fun (j29 : Int64) => ((p1 < x0) ∧ j29 = (0 : Int64)) ∨ ((¬ (p1 < x0)) ∧ j29 = (1 : Int64))) (D' := fun (j29 : Int64) => (Ob, Ax)) (cells' := 0) (slots' := 0) (pc' := 19) (L' := fun (j29 : Int64) => #[.val (.long p1), .second, .val (.int (1 : Int32)), .val (.long x0), .second, .val (.long x1), .second, .val (.long x2), .second, .val (.long x3), .second, .val (.long j29), .second]) (S' := fun (j29 : Int64) => []) ?_ (fun J10 => ?_)
  · intro j29 hjj29
    refine Run.iloadN K d4_19 (pc' := 20) rfl rfl ?_
    refine Run.iconst K d4_20 (pc' := 21) rfl (v := (1 : Int32)) rfl ?_
    refine Run.icmpT K d4_21 (pT := 37) (pF := 24) (by decide) (by decide) rfl (show (1 : Int32) ≤ (1 : Int32) from by decide) ?_
    refine Run.iloadN K d4_37 (pc' := 38) rfl rfl ?_
    refine Run.iconst K d4_38 (pc' := 39) rfl (v := (2 : Int32)) rfl ?_
    refine Run.icmpT K d4_39 (pT := 55) (pF := 42) (by decide) (by decide) rfl (show (1 : Int32) ≤ (2 : Int32) from by decide) ?_
    refine Run.iloadN K d4_55 (pc' := 56) rfl rfl ?_
    refine Run.iconst K d4_56 (pc' := 57) rfl (v := (3 : Int32)) rfl ?_
    refine Run.icmpT K d4_57 (pT := 73) (pF := 60) (by decide) (by decide) rfl (show (1 : Int32) ≤ (3 : Int32) from by decide) ?_
    refine Run.lload K d4_73 (pc' := 75) rfl rfl ?_
    have r0 : (0 : Int64).toInt = (0 : Int) := by decide
    have r1 := own_cs r0 (by omega) (by omega) hjj29
    have u0 := own_ib (x0.toInt ≤ p1.toInt)
    refine Run.retJ K d4_75 rfl (by decide) (by decide) ⟨_, ?_, rfl, rfl⟩
    rw [r1]; simp only [own_c]; omega
  · skip
    refine Run.ifL K d4_10 (pT := 19) (pF := 13) (by decide) (by decide) rfl (fun (h10_29 : p1 < x0) => ?_) (fun (h10_29 : ¬ (p1 < x0)) => ?_)
    · skip
      exact J10 _ (Or.inl ⟨h10_29, rfl⟩)
    · skip
      refine Run.lload K d4_13 (pc' := 15) rfl rfl ?_
      refine Run.lconst K d4_15 (pc' := 16) rfl (v := (1 : Int64)) rfl ?_
      refine Run.laddV K d4_16 (pc' := 17) rfl (v := (1 : Int64)) (by decide) ?_
      refine Run.lstore K d4_17 (pc' := 19) rfl (L' := #[.val (.long p1), .second, .val (.int (1 : Int32)), .val (.long x0), .second, .val (.long x1), .second, .val (.long x2), .second, .val (.long x3), .second, .val (.long (1 : Int64)), .second]) rfl ?_
      exact J10 _ (Or.inr (⟨h10_29, rfl⟩))
theorem d5_0 : decode method_4_code 0 = .ok (.lload_n 0, 1) := by decide +kernel
theorem d5_1 : decode method_4_code 1 = .ok (.lload_n 2, 1) := by decide +kernel
theorem d5_2 : decode method_4_code 2 = .ok (.lcmp, 1) := by decide +kernel
theorem d5_3 : decode method_4_code 3 = .ok (.ifCond .ge 27, 3) := by decide +kernel
theorem d5_6 : decode method_4_code 6 = .ok (.ldc2_w 23, 3) := by decide +kernel
theorem d5_9 : decode method_4_code 9 = .ok (.lload_n 0, 1) := by decide +kernel
theorem d5_10 : decode method_4_code 10 = .ok (.iload 4, 2) := by decide +kernel
theorem d5_12 : decode method_4_code 12 = .ok (.lload 7, 2) := by decide +kernel
theorem d5_14 : decode method_4_code 14 = .ok (.lload 9, 2) := by decide +kernel
theorem d5_16 : decode method_4_code 16 = .ok (.lload 11, 2) := by decide +kernel
theorem d5_18 : decode method_4_code 18 = .ok (.lload 13, 2) := by decide +kernel
theorem d5_20 : decode method_4_code 20 = .ok (.invokestatic 25, 3) := by decide +kernel
theorem d5_23 : decode method_4_code 23 = .ok (.lmul, 1) := by decide +kernel
theorem d5_24 : decode method_4_code 24 = .ok (.lload 5, 2) := by decide +kernel
theorem d5_26 : decode method_4_code 26 = .ok (.lcmp, 1) := by decide +kernel
theorem d5_27 : decode method_4_code 27 = .ok (.ifCond .ge 7, 3) := by decide +kernel
theorem d5_30 : decode method_4_code 30 = .ok (.iconst 1, 1) := by decide +kernel
theorem d5_31 : decode method_4_code 31 = .ok (.goto 4, 3) := by decide +kernel
theorem d5_34 : decode method_4_code 34 = .ok (.iconst 0, 1) := by decide +kernel
theorem d5_35 : decode method_4_code 35 = .ok (.ireturn, 1) := by decide +kernel
theorem pd_1 : parseMethodDescriptor "(JIJJJJ)J" = some ⟨[.long, .int, .long, .long, .long, .long], some .long⟩ := by decide +kernel
set_option maxRecDepth 65536 in
set_option maxHeartbeats 40000000 in
theorem fi_1 (l : Launch) (Z : State) (a0 : Array Value) (n0 : Nat) (hw : ∀ d ∈ tables_1, d.before a0 Z = true) (ws : List Jvm.Cond) (p1 : Int64) (p2 : Int64) (p3 : Int32) (p4 : Int64) (x0 : Int64) (x1 : Int64) (x2 : Int64) (x3 : Int64) (Ob : List OObj) (Ax : List OArr) (e1 : p3 = (1 : Int32)) : Con l Z a0 n0 ws (⟨"com/example/claim_queue/claimqueue/bench/ReportPercentilePinLaw", "fine", "(JJIJJJJJ)Z"⟩ : MethodName) method_4_code 15 (some .boolean) ({ frames := 1, cells := 0, slots := 0, locals := 26 } : Room) #[(.long p1), (.long p2), (.int p3), (.long p4), (.long x0), (.long x1), (.long x2), (.long x3)] (Ob, Ax) (fun vq Dq => ∃ (j36 : Int32), ((((p2 ≤ p1) ∧ j36 = (1 : Int32)) ∨ (∃ (c33 : Int64), (¬ (p2 ≤ p1)) ∧ (c33.toInt = own_c p1 [x0]) ∧ (p4 ≤ ((100 : Int64) * c33)) ∧ j36 = (0 : Int32)) ∨ (∃ (c33 : Int64), (¬ (p2 ≤ p1)) ∧ (c33.toInt = own_c p1 [x0]) ∧ (¬ (p4 ≤ ((100 : Int64) * c33))) ∧ j36 = (1 : Int32)))) ∧ vq = (some (.int j36)) ∧ Dq = (Ob, Ax)) := by
  refine Con.of_run (plainFor_of_name pn_1) (L0 := #[.val (.long p1), .second, .val (.long p2), .second, .val (.int p3), .val (.long p4), .second, .val (.long x0), .second, .val (.long x1), .second, .val (.long x2), .second, .val (.long x3), .second]) (fun m => by first | (simp [entryFrame, mkF, argsToLocals, Value.category]; done) | rfl) ?_
  intro p e s m below meth c K
  subst e1
  refine Run.lloadN K d5_0 (pc' := 1) rfl rfl ?_
  refine Run.lloadN K d5_1 (pc' := 2) rfl rfl ?_
  refine Run.lcmp K d5_2 (pc' := 3) rfl ?_
  refine Run.join1 (F := fun (j46 : Int32) => ((p2 ≤ p1) ∧ j46 = (1 : Int32)) ∨ (∃ (c43 : Int64), (¬ (p2 ≤ p1)) ∧ (c43.toInt = own_c p1 [x0]) ∧ (p4 ≤ ((100 : Int64) * c43)) ∧ j46 = (0 : Int32)) ∨ (∃ (c43 : Int64), (¬ (p2 ≤ p1)) ∧ (c43.toInt = own_c p1 [x0]) ∧ (¬ (p4 ≤ ((100 : Int64) * c43))) ∧ j46 = (1 : Int32))) (D' := fun (j46 : Int32) => (Ob, Ax)) (cells' := 0) (slots' := 0) (pc' := 35) (L' := fun (j46 : Int32) => #[.val (.long p1), .second, .val (.long p2), .second, .val (.int (1 : Int32)), .val (.long p4), .second, .val (.long x0), .second, .val (.long x1), .second, .val (.long x2), .second, .val (.long x3), .second]) (S' := fun (j46 : Int32) => [(.int j46)]) ?_ (fun J3 => ?_)
  · intro j46 hjj46
    exact Run.retN K d5_35 (w := j46) rfl (by decide) (own_bool (by rcases hjj46 with ⟨-, q⟩ | ⟨_, -, -, -, q⟩ | ⟨_, -, -, -, q⟩ <;> first | exact Or.inl q | exact Or.inr q)) (by decide) (by decide) ⟨j46, hjj46, rfl, rfl⟩
  · skip
    refine Run.ifL K d5_3 (pT := 30) (pF := 6) (by decide) (by decide) rfl (fun (h3_46 : p2 ≤ p1) => ?_) (fun (h3_46 : ¬ (p2 ≤ p1)) => ?_)
    · skip
      refine Run.iconst K d5_30 (pc' := 31) rfl (v := (1 : Int32)) rfl ?_
      refine Run.goto K d5_31 (pc' := 35) (by decide) (by decide) ?_
      exact J3 _ (Or.inl ⟨h3_46, rfl⟩)
    · skip
      refine Run.ldcJ K d5_6 (pc' := 9) rfl (v := (100 : Int64)) (hw _ (List.mem_of_getElem? (i := 16) rfl)) ?_
      refine Run.lloadN K d5_9 (pc' := 10) rfl rfl ?_
      refine Run.iload K d5_10 (pc' := 12) rfl rfl ?_
      refine Run.lload K d5_12 (pc' := 14) rfl rfl ?_
      refine Run.lload K d5_14 (pc' := 16) rfl rfl ?_
      refine Run.lload K d5_16 (pc' := 18) rfl rfl ?_
      refine Run.lload K d5_18 (pc' := 20) rfl rfl ?_
      refine Run.callS K d5_20 (pc' := 23) rfl (hw _ (List.mem_of_getElem? (i := 17) rfl)) (hw _ (List.mem_of_getElem? (i := 18) rfl)) (hw _ (List.mem_of_getElem? (i := 19) rfl)) (hw _ (List.mem_of_getElem? (i := 20) rfl)) (by decide) (cnt_1 l Z a0 n0 hw [] (p1) ((1 : Int32)) (x0) (x1) (x2) (x3) (Ob) (Ax) (rfl)) (argsL := [(.long p1), (.int (1 : Int32)), (.long x0), (.long x1), (.long x2), (.long x3)]) (rest := [(.long (100 : Int64))]) rfl rfl pd_1 rfl (W := 2) rfl (by decide) (by decide) (cells' := 0) (slots' := 0) rfl rfl (by decide) (by decide) ?_
      intro vq Dq hq
      obtain ⟨c48, hc49, rfl, rfl⟩ := hq
      refine Run.as2 (D' := (Ob, Ax)) (S' := [(.long c48), (.long (100 : Int64))]) rfl rfl ?_
      refine Run.lmul K d5_23 (pc' := 24) rfl ?_
      refine Run.lload K d5_24 (pc' := 26) rfl rfl ?_
      refine Run.lcmp K d5_26 (pc' := 27) rfl ?_
      refine Run.ifL K d5_27 (pT := 34) (pF := 30) (by decide) (by decide) rfl (fun (h27_49 : p4 ≤ ((100 : Int64) * c48)) => ?_) (fun (h27_49 : ¬ (p4 ≤ ((100 : Int64) * c48))) => ?_)
      · skip
        refine Run.iconst K d5_34 (pc' := 35) rfl (v := (0 : Int32)) rfl ?_
        exact J3 _ (Or.inr (Or.inl ⟨c48, h3_46, hc49, h27_49, rfl⟩))
      · skip
        refine Run.iconst K d5_30 (pc' := 31) rfl (v := (1 : Int32)) rfl ?_
        refine Run.goto K d5_31 (pc' := 35) (by decide) (by decide) ?_
        exact J3 _ (Or.inr (Or.inr (⟨c48, h3_46, hc49, h27_49, rfl⟩)))
set_option maxRecDepth 65536 in
set_option maxHeartbeats 40000000 in
theorem pc_2 (l : Launch) (Z : State) (a0 : Array Value) (n0 : Nat) (hw : ∀ d ∈ tables_1, d.before a0 Z = true) (ws : List Jvm.Cond) (a1 : Addr) (p1 : Int32) (y0 : Int64) (y1 : Int64) (q : Nat) (Ob : List OObj) (Ax : List OArr) (e1 : p1 = Int32.ofNat q) (hq : q ≤ 100) : Con l Z a0 n0 ws (⟨"com/example/claim_queue/claimqueue/bench/Report", "percentile", "([JI)J"⟩ : MethodName) prog_3_method_3_code 6 (some .long) ({ frames := 1, cells := 0, slots := 0, locals := 16 } : Room) #[(.ref a1), (.int p1)] (Ob, (a1, .long, [(.long y0), (.long y1)]) :: Ax) (fun vq Dq => ∃ (c51 : Int64), ∃ (j54 : Int64), (((((((((2 : Int64) * ((Int32.ofNat q).toInt64)) + (99 : Int64)) / (100 : Int64)) < (1 : Int64)) ∧ c51 = (1 : Int64)) ∨ ((¬ (((((2 : Int64) * ((Int32.ofNat q).toInt64)) + (99 : Int64)) / (100 : Int64)) < (1 : Int64))) ∧ c51 = ((((2 : Int64) * ((Int32.ofNat q).toInt64)) + (99 : Int64)) / (100 : Int64))))) ∧ (((((c51.toInt32) - (1 : Int32)) = (0 : Int32)) ∧ j54 = y0) ∨ ((((c51.toInt32) - (1 : Int32)) = (1 : Int32)) ∧ j54 = y1))) ∧ vq = (some (.long j54)) ∧ Dq = (Ob, (a1, .long, [(.long y0), (.long y1)]) :: Ax)) := by
  refine Con.of_run (plainFor_of_name pn_0) (L0 := #[.val (.ref a1), .val (.int p1), .unset, .unset, .unset, .unset]) (fun m => by first | (simp [entryFrame, mkF, argsToLocals, Value.category]; done) | rfl) ?_
  intro p e s m below meth c K
  subst e1
  refine Run.lconst K d3_0 (pc' := 1) rfl (v := (0 : Int64)) rfl ?_
  refine Run.lstoreN K d3_1 (pc' := 2) rfl (L' := #[.val (.ref a1), .val (.int (Int32.ofNat q)), .val (.long (0 : Int64)), .second, .unset, .unset]) rfl ?_
  refine Run.aloadN K d3_2 (pc' := 3) rfl rfl rfl ?_
  refine Run.alen K d3_3 (pc' := 4) rfl (i := 0) rfl (w := (2 : Int32)) (rfl) ?_
  refine Run.ifcF K d3_4 (pT := 35) (pF := 7) (by decide) (by decide) rfl (show ¬ ((2 : Int32) ≤ (0 : Int32)) from by decide) ?_
  refine Run.aloadN K d3_7 (pc' := 8) rfl rfl rfl ?_
  refine Run.alen K d3_8 (pc' := 9) rfl (i := 0) rfl (w := (2 : Int32)) (rfl) ?_
  refine Run.i2lV K d3_9 (pc' := 10) rfl (v := (2 : Int64)) (by decide) ?_
  refine Run.iloadN K d3_10 (pc' := 11) rfl rfl ?_
  refine Run.i2l K d3_11 (pc' := 12) rfl ?_
  refine Run.lmul K d3_12 (pc' := 13) rfl ?_
  refine Run.ldcJ K d3_13 (pc' := 16) rfl (v := (99 : Int64)) (hw _ (List.mem_of_getElem? (i := 13) rfl)) ?_
  refine Run.ladd K d3_16 (pc' := 17) rfl ?_
  refine Run.ldcJ K d3_17 (pc' := 20) rfl (v := (100 : Int64)) (hw _ (List.mem_of_getElem? (i := 14) rfl)) ?_
  refine Run.ldiv K d3_20 (pc' := 21) rfl (by decide) ?_
  refine Run.lstore K d3_21 (pc' := 23) rfl (L' := #[.val (.ref a1), .val (.int (Int32.ofNat q)), .val (.long (0 : Int64)), .second, .val (.long ((((2 : Int64) * ((Int32.ofNat q).toInt64)) + (99 : Int64)) / (100 : Int64))), .second]) rfl ?_
  refine Run.aloadN K d3_23 (pc' := 24) rfl rfl rfl ?_
  refine Run.lload K d3_24 (pc' := 26) rfl rfl ?_
  refine Run.lconst K d3_26 (pc' := 27) rfl (v := (1 : Int64)) rfl ?_
  refine Run.callS K d3_27 (pc' := 30) rfl (hw _ (List.mem_of_getElem? (i := 15) rfl)) (hw _ (List.mem_of_getElem? (i := 6) rfl)) (hw _ (List.mem_of_getElem? (i := 3) rfl)) (hw _ (List.mem_of_getElem? (i := 7) rfl)) (by decide) (rm2 l Z a0 n0 hw [] (((((2 : Int64) * ((Int32.ofNat q).toInt64)) + (99 : Int64)) / (100 : Int64))) ((1 : Int64)) (Ob) ((a1, .long, [(.long y0), (.long y1)]) :: Ax) ) (argsL := [(.long ((((2 : Int64) * ((Int32.ofNat q).toInt64)) + (99 : Int64)) / (100 : Int64))), (.long (1 : Int64))]) (rest := [(.ref a1)]) rfl rfl pd_0 rfl (W := 1) rfl (by decide) (by decide) (cells' := 0) (slots' := 0) rfl rfl (by decide) (by decide) ?_
  intro vq Dq hq
  obtain ⟨c55, hc56, rfl, rfl⟩ := hq
  refine Run.as2 (D' := (Ob, (a1, .long, [(.long y0), (.long y1)]) :: Ax)) (S' := [(.long c55), (.ref a1)]) rfl rfl ?_
  refine Run.l2i K d3_30 (pc' := 31) rfl ?_
  refine Run.iconst K d3_31 (pc' := 32) rfl (v := (1 : Int32)) rfl ?_
  refine Run.isub K d3_32 (pc' := 33) rfl ?_
  rcases (own_ix2 hq hc56 : ((c55.toInt32) - (1 : Int32)) = (0 : Int32) ∨ ((c55.toInt32) - (1 : Int32)) = (1 : Int32)) with hq57 | hq57
  · rw [hq57]
    refine Run.laload K d3_33 (pc' := 34) rfl (i := 0) (q := 0) rfl (by decide) (by decide) (v := (.long y0)) (rfl) ?_
    refine Run.lstoreN K d3_34 (pc' := 35) rfl (L' := #[.val (.ref a1), .val (.int (Int32.ofNat q)), .val (.long y0), .second, .val (.long ((((2 : Int64) * ((Int32.ofNat q).toInt64)) + (99 : Int64)) / (100 : Int64))), .second]) rfl ?_
    refine Run.lloadN K d3_35 (pc' := 36) rfl rfl ?_
    exact Run.retJ K d3_36 rfl (by decide) (by decide) ⟨c55, _, ⟨hc56, Or.inl ⟨hq57, rfl⟩⟩, rfl, rfl⟩
  · rw [hq57]
    refine Run.laload K d3_33 (pc' := 34) rfl (i := 0) (q := 1) rfl (by decide) (by decide) (v := (.long y1)) (rfl) ?_
    refine Run.lstoreN K d3_34 (pc' := 35) rfl (L' := #[.val (.ref a1), .val (.int (Int32.ofNat q)), .val (.long y1), .second, .val (.long ((((2 : Int64) * ((Int32.ofNat q).toInt64)) + (99 : Int64)) / (100 : Int64))), .second]) rfl ?_
    refine Run.lloadN K d3_35 (pc' := 36) rfl rfl ?_
    exact Run.retJ K d3_36 rfl (by decide) (by decide) ⟨c55, _, ⟨hc56, Or.inr (⟨hq57, rfl⟩)⟩, rfl, rfl⟩
set_option maxRecDepth 65536 in
set_option maxHeartbeats 40000000 in
theorem cnt_2 (l : Launch) (Z : State) (a0 : Array Value) (n0 : Nat) (hw : ∀ d ∈ tables_1, d.before a0 Z = true) (ws : List Jvm.Cond) (p1 : Int64) (p2 : Int32) (x0 : Int64) (x1 : Int64) (x2 : Int64) (x3 : Int64) (Ob : List OObj) (Ax : List OArr) (e1 : p2 = (2 : Int32)) : Con l Z a0 n0 ws (⟨"com/example/claim_queue/claimqueue/bench/ReportPercentilePinLaw", "cnt", "(JIJJJJ)J"⟩ : MethodName) method_3_code 13 (some .long) ({ frames := 0, cells := 0, slots := 0, locals := 0 } : Room) #[(.long p1), (.int p2), (.long x0), (.long x1), (.long x2), (.long x3)] (Ob, Ax) (fun vq Dq => ∃ (w : Int64), (w.toInt = own_c p1 [x0, x1]) ∧ vq = (some (.long w)) ∧ Dq = (Ob, Ax)) := by
  refine Con.of_run (plainFor_of_name pn_1) (L0 := #[.val (.long p1), .second, .val (.int p2), .val (.long x0), .second, .val (.long x1), .second, .val (.long x2), .second, .val (.long x3), .second, .unset, .unset]) (fun m => by first | (simp [entryFrame, mkF, argsToLocals, Value.category]; done) | rfl) ?_
  intro p e s m below meth c K
  subst e1
  refine Run.lconst K d4_0 (pc' := 1) rfl (v := (0 : Int64)) rfl ?_
  refine Run.lstore K d4_1 (pc' := 3) rfl (L' := #[.val (.long p1), .second, .val (.int (2 : Int32)), .val (.long x0), .second, .val (.long x1), .second, .val (.long x2), .second, .val (.long x3), .second, .val (.long (0 : Int64)), .second]) rfl ?_
  refine Run.iloadN K d4_3 (pc' := 4) rfl rfl ?_
  refine Run.ifcF K d4_4 (pT := 19) (pF := 7) (by decide) (by decide) rfl (show ¬ ((2 : Int32) ≤ (0 : Int32)) from by decide) ?_
  refine Run.lloadN K d4_7 (pc' := 8) rfl rfl ?_
  refine Run.lloadN K d4_8 (pc' := 9) rfl rfl ?_
  refine Run.lcmp K d4_9 (pc' := 10) rfl ?_
  refine Run.join1 (F := fun (j68 : Int64) => ((p1 < x0) ∧ j68 = (0 : Int64)) ∨ ((¬ (p1 < x0)) ∧ j68 = (1 : Int64))) (D' := fun (j68 : Int64) => (Ob, Ax)) (cells' := 0) (slots' := 0) (pc' := 19) (L' := fun (j68 : Int64) => #[.val (.long p1), .second, .val (.int (2 : Int32)), .val (.long x0), .second, .val (.long x1), .second, .val (.long x2), .second, .val (.long x3), .second, .val (.long j68), .second]) (S' := fun (j68 : Int64) => []) ?_ (fun J10 => ?_)
  · intro j68 hjj68
    refine Run.iloadN K d4_19 (pc' := 20) rfl rfl ?_
    refine Run.iconst K d4_20 (pc' := 21) rfl (v := (1 : Int32)) rfl ?_
    refine Run.icmpF K d4_21 (pT := 37) (pF := 24) (by decide) (by decide) rfl (show ¬ ((2 : Int32) ≤ (1 : Int32)) from by decide) ?_
    refine Run.lload K d4_24 (pc' := 26) rfl rfl ?_
    refine Run.lloadN K d4_26 (pc' := 27) rfl rfl ?_
    refine Run.lcmp K d4_27 (pc' := 28) rfl ?_
    refine Run.join1 (F := fun (j71 : Int64) => ((p1 < x1) ∧ j71 = j68) ∨ ((¬ (p1 < x1)) ∧ j71 = (j68 + (1 : Int64)))) (D' := fun (j71 : Int64) => (Ob, Ax)) (cells' := 0) (slots' := 0) (pc' := 37) (L' := fun (j71 : Int64) => #[.val (.long p1), .second, .val (.int (2 : Int32)), .val (.long x0), .second, .val (.long x1), .second, .val (.long x2), .second, .val (.long x3), .second, .val (.long j71), .second]) (S' := fun (j71 : Int64) => []) ?_ (fun J28 => ?_)
    · intro j71 hjj71
      refine Run.iloadN K d4_37 (pc' := 38) rfl rfl ?_
      refine Run.iconst K d4_38 (pc' := 39) rfl (v := (2 : Int32)) rfl ?_
      refine Run.icmpT K d4_39 (pT := 55) (pF := 42) (by decide) (by decide) rfl (show (2 : Int32) ≤ (2 : Int32) from by decide) ?_
      refine Run.iloadN K d4_55 (pc' := 56) rfl rfl ?_
      refine Run.iconst K d4_56 (pc' := 57) rfl (v := (3 : Int32)) rfl ?_
      refine Run.icmpT K d4_57 (pT := 73) (pF := 60) (by decide) (by decide) rfl (show (2 : Int32) ≤ (3 : Int32) from by decide) ?_
      refine Run.lload K d4_73 (pc' := 75) rfl rfl ?_
      have r0 : (0 : Int64).toInt = (0 : Int) := by decide
      have r1 := own_cs r0 (by omega) (by omega) hjj68
      have u0 := own_ib (x0.toInt ≤ p1.toInt)
      have r2 := own_cs r1 (by omega) (by omega) hjj71
      have u1 := own_ib (x1.toInt ≤ p1.toInt)
      refine Run.retJ K d4_75 rfl (by decide) (by decide) ⟨_, ?_, rfl, rfl⟩
      rw [r2]; simp only [own_c]; omega
    · skip
      refine Run.ifL K d4_28 (pT := 37) (pF := 31) (by decide) (by decide) rfl (fun (h28_71 : p1 < x1) => ?_) (fun (h28_71 : ¬ (p1 < x1)) => ?_)
      · skip
        exact J28 _ (Or.inl ⟨h28_71, rfl⟩)
      · skip
        refine Run.lload K d4_31 (pc' := 33) rfl rfl ?_
        refine Run.lconst K d4_33 (pc' := 34) rfl (v := (1 : Int64)) rfl ?_
        refine Run.ladd K d4_34 (pc' := 35) rfl ?_
        refine Run.lstore K d4_35 (pc' := 37) rfl (L' := #[.val (.long p1), .second, .val (.int (2 : Int32)), .val (.long x0), .second, .val (.long x1), .second, .val (.long x2), .second, .val (.long x3), .second, .val (.long (j68 + (1 : Int64))), .second]) rfl ?_
        exact J28 _ (Or.inr (⟨h28_71, rfl⟩))
  · skip
    refine Run.ifL K d4_10 (pT := 19) (pF := 13) (by decide) (by decide) rfl (fun (h10_72 : p1 < x0) => ?_) (fun (h10_72 : ¬ (p1 < x0)) => ?_)
    · skip
      exact J10 _ (Or.inl ⟨h10_72, rfl⟩)
    · skip
      refine Run.lload K d4_13 (pc' := 15) rfl rfl ?_
      refine Run.lconst K d4_15 (pc' := 16) rfl (v := (1 : Int64)) rfl ?_
      refine Run.laddV K d4_16 (pc' := 17) rfl (v := (1 : Int64)) (by decide) ?_
      refine Run.lstore K d4_17 (pc' := 19) rfl (L' := #[.val (.long p1), .second, .val (.int (2 : Int32)), .val (.long x0), .second, .val (.long x1), .second, .val (.long x2), .second, .val (.long x3), .second, .val (.long (1 : Int64)), .second]) rfl ?_
      exact J10 _ (Or.inr (⟨h10_72, rfl⟩))
set_option maxRecDepth 65536 in
set_option maxHeartbeats 40000000 in
theorem fi_2 (l : Launch) (Z : State) (a0 : Array Value) (n0 : Nat) (hw : ∀ d ∈ tables_1, d.before a0 Z = true) (ws : List Jvm.Cond) (p1 : Int64) (p2 : Int64) (p3 : Int32) (p4 : Int64) (x0 : Int64) (x1 : Int64) (x2 : Int64) (x3 : Int64) (Ob : List OObj) (Ax : List OArr) (e1 : p3 = (2 : Int32)) : Con l Z a0 n0 ws (⟨"com/example/claim_queue/claimqueue/bench/ReportPercentilePinLaw", "fine", "(JJIJJJJJ)Z"⟩ : MethodName) method_4_code 15 (some .boolean) ({ frames := 1, cells := 0, slots := 0, locals := 26 } : Room) #[(.long p1), (.long p2), (.int p3), (.long p4), (.long x0), (.long x1), (.long x2), (.long x3)] (Ob, Ax) (fun vq Dq => ∃ (j79 : Int32), ((((p2 ≤ p1) ∧ j79 = (1 : Int32)) ∨ (∃ (c76 : Int64), (¬ (p2 ≤ p1)) ∧ (c76.toInt = own_c p1 [x0, x1]) ∧ (p4 ≤ ((100 : Int64) * c76)) ∧ j79 = (0 : Int32)) ∨ (∃ (c76 : Int64), (¬ (p2 ≤ p1)) ∧ (c76.toInt = own_c p1 [x0, x1]) ∧ (¬ (p4 ≤ ((100 : Int64) * c76))) ∧ j79 = (1 : Int32)))) ∧ vq = (some (.int j79)) ∧ Dq = (Ob, Ax)) := by
  refine Con.of_run (plainFor_of_name pn_1) (L0 := #[.val (.long p1), .second, .val (.long p2), .second, .val (.int p3), .val (.long p4), .second, .val (.long x0), .second, .val (.long x1), .second, .val (.long x2), .second, .val (.long x3), .second]) (fun m => by first | (simp [entryFrame, mkF, argsToLocals, Value.category]; done) | rfl) ?_
  intro p e s m below meth c K
  subst e1
  refine Run.lloadN K d5_0 (pc' := 1) rfl rfl ?_
  refine Run.lloadN K d5_1 (pc' := 2) rfl rfl ?_
  refine Run.lcmp K d5_2 (pc' := 3) rfl ?_
  refine Run.join1 (F := fun (j89 : Int32) => ((p2 ≤ p1) ∧ j89 = (1 : Int32)) ∨ (∃ (c86 : Int64), (¬ (p2 ≤ p1)) ∧ (c86.toInt = own_c p1 [x0, x1]) ∧ (p4 ≤ ((100 : Int64) * c86)) ∧ j89 = (0 : Int32)) ∨ (∃ (c86 : Int64), (¬ (p2 ≤ p1)) ∧ (c86.toInt = own_c p1 [x0, x1]) ∧ (¬ (p4 ≤ ((100 : Int64) * c86))) ∧ j89 = (1 : Int32))) (D' := fun (j89 : Int32) => (Ob, Ax)) (cells' := 0) (slots' := 0) (pc' := 35) (L' := fun (j89 : Int32) => #[.val (.long p1), .second, .val (.long p2), .second, .val (.int (2 : Int32)), .val (.long p4), .second, .val (.long x0), .second, .val (.long x1), .second, .val (.long x2), .second, .val (.long x3), .second]) (S' := fun (j89 : Int32) => [(.int j89)]) ?_ (fun J3 => ?_)
  · intro j89 hjj89
    exact Run.retN K d5_35 (w := j89) rfl (by decide) (own_bool (by rcases hjj89 with ⟨-, q⟩ | ⟨_, -, -, -, q⟩ | ⟨_, -, -, -, q⟩ <;> first | exact Or.inl q | exact Or.inr q)) (by decide) (by decide) ⟨j89, hjj89, rfl, rfl⟩
  · skip
    refine Run.ifL K d5_3 (pT := 30) (pF := 6) (by decide) (by decide) rfl (fun (h3_89 : p2 ≤ p1) => ?_) (fun (h3_89 : ¬ (p2 ≤ p1)) => ?_)
    · skip
      refine Run.iconst K d5_30 (pc' := 31) rfl (v := (1 : Int32)) rfl ?_
      refine Run.goto K d5_31 (pc' := 35) (by decide) (by decide) ?_
      exact J3 _ (Or.inl ⟨h3_89, rfl⟩)
    · skip
      refine Run.ldcJ K d5_6 (pc' := 9) rfl (v := (100 : Int64)) (hw _ (List.mem_of_getElem? (i := 16) rfl)) ?_
      refine Run.lloadN K d5_9 (pc' := 10) rfl rfl ?_
      refine Run.iload K d5_10 (pc' := 12) rfl rfl ?_
      refine Run.lload K d5_12 (pc' := 14) rfl rfl ?_
      refine Run.lload K d5_14 (pc' := 16) rfl rfl ?_
      refine Run.lload K d5_16 (pc' := 18) rfl rfl ?_
      refine Run.lload K d5_18 (pc' := 20) rfl rfl ?_
      refine Run.callS K d5_20 (pc' := 23) rfl (hw _ (List.mem_of_getElem? (i := 17) rfl)) (hw _ (List.mem_of_getElem? (i := 18) rfl)) (hw _ (List.mem_of_getElem? (i := 19) rfl)) (hw _ (List.mem_of_getElem? (i := 20) rfl)) (by decide) (cnt_2 l Z a0 n0 hw [] (p1) ((2 : Int32)) (x0) (x1) (x2) (x3) (Ob) (Ax) (rfl)) (argsL := [(.long p1), (.int (2 : Int32)), (.long x0), (.long x1), (.long x2), (.long x3)]) (rest := [(.long (100 : Int64))]) rfl rfl pd_1 rfl (W := 2) rfl (by decide) (by decide) (cells' := 0) (slots' := 0) rfl rfl (by decide) (by decide) ?_
      intro vq Dq hq
      obtain ⟨c91, hc92, rfl, rfl⟩ := hq
      refine Run.as2 (D' := (Ob, Ax)) (S' := [(.long c91), (.long (100 : Int64))]) rfl rfl ?_
      refine Run.lmul K d5_23 (pc' := 24) rfl ?_
      refine Run.lload K d5_24 (pc' := 26) rfl rfl ?_
      refine Run.lcmp K d5_26 (pc' := 27) rfl ?_
      refine Run.ifL K d5_27 (pT := 34) (pF := 30) (by decide) (by decide) rfl (fun (h27_92 : p4 ≤ ((100 : Int64) * c91)) => ?_) (fun (h27_92 : ¬ (p4 ≤ ((100 : Int64) * c91))) => ?_)
      · skip
        refine Run.iconst K d5_34 (pc' := 35) rfl (v := (0 : Int32)) rfl ?_
        exact J3 _ (Or.inr (Or.inl ⟨c91, h3_89, hc92, h27_92, rfl⟩))
      · skip
        refine Run.iconst K d5_30 (pc' := 31) rfl (v := (1 : Int32)) rfl ?_
        refine Run.goto K d5_31 (pc' := 35) (by decide) (by decide) ?_
        exact J3 _ (Or.inr (Or.inr (⟨c91, h3_89, hc92, h27_92, rfl⟩)))
set_option maxRecDepth 65536 in
set_option maxHeartbeats 40000000 in
theorem pc_3 (l : Launch) (Z : State) (a0 : Array Value) (n0 : Nat) (hw : ∀ d ∈ tables_1, d.before a0 Z = true) (ws : List Jvm.Cond) (a1 : Addr) (p1 : Int32) (y0 : Int64) (y1 : Int64) (y2 : Int64) (q : Nat) (Ob : List OObj) (Ax : List OArr) (e1 : p1 = Int32.ofNat q) (hq : q ≤ 100) : Con l Z a0 n0 ws (⟨"com/example/claim_queue/claimqueue/bench/Report", "percentile", "([JI)J"⟩ : MethodName) prog_3_method_3_code 6 (some .long) ({ frames := 1, cells := 0, slots := 0, locals := 16 } : Room) #[(.ref a1), (.int p1)] (Ob, (a1, .long, [(.long y0), (.long y1), (.long y2)]) :: Ax) (fun vq Dq => ∃ (c94 : Int64), ∃ (j97 : Int64), (((((((((3 : Int64) * ((Int32.ofNat q).toInt64)) + (99 : Int64)) / (100 : Int64)) < (1 : Int64)) ∧ c94 = (1 : Int64)) ∨ ((¬ (((((3 : Int64) * ((Int32.ofNat q).toInt64)) + (99 : Int64)) / (100 : Int64)) < (1 : Int64))) ∧ c94 = ((((3 : Int64) * ((Int32.ofNat q).toInt64)) + (99 : Int64)) / (100 : Int64))))) ∧ (((((c94.toInt32) - (1 : Int32)) = (0 : Int32)) ∧ j97 = y0) ∨ ((((c94.toInt32) - (1 : Int32)) = (1 : Int32)) ∧ j97 = y1) ∨ ((((c94.toInt32) - (1 : Int32)) = (2 : Int32)) ∧ j97 = y2))) ∧ vq = (some (.long j97)) ∧ Dq = (Ob, (a1, .long, [(.long y0), (.long y1), (.long y2)]) :: Ax)) := by
  refine Con.of_run (plainFor_of_name pn_0) (L0 := #[.val (.ref a1), .val (.int p1), .unset, .unset, .unset, .unset]) (fun m => by first | (simp [entryFrame, mkF, argsToLocals, Value.category]; done) | rfl) ?_
  intro p e s m below meth c K
  subst e1
  refine Run.lconst K d3_0 (pc' := 1) rfl (v := (0 : Int64)) rfl ?_
  refine Run.lstoreN K d3_1 (pc' := 2) rfl (L' := #[.val (.ref a1), .val (.int (Int32.ofNat q)), .val (.long (0 : Int64)), .second, .unset, .unset]) rfl ?_
  refine Run.aloadN K d3_2 (pc' := 3) rfl rfl rfl ?_
  refine Run.alen K d3_3 (pc' := 4) rfl (i := 0) rfl (w := (3 : Int32)) (rfl) ?_
  refine Run.ifcF K d3_4 (pT := 35) (pF := 7) (by decide) (by decide) rfl (show ¬ ((3 : Int32) ≤ (0 : Int32)) from by decide) ?_
  refine Run.aloadN K d3_7 (pc' := 8) rfl rfl rfl ?_
  refine Run.alen K d3_8 (pc' := 9) rfl (i := 0) rfl (w := (3 : Int32)) (rfl) ?_
  refine Run.i2lV K d3_9 (pc' := 10) rfl (v := (3 : Int64)) (by decide) ?_
  refine Run.iloadN K d3_10 (pc' := 11) rfl rfl ?_
  refine Run.i2l K d3_11 (pc' := 12) rfl ?_
  refine Run.lmul K d3_12 (pc' := 13) rfl ?_
  refine Run.ldcJ K d3_13 (pc' := 16) rfl (v := (99 : Int64)) (hw _ (List.mem_of_getElem? (i := 13) rfl)) ?_
  refine Run.ladd K d3_16 (pc' := 17) rfl ?_
  refine Run.ldcJ K d3_17 (pc' := 20) rfl (v := (100 : Int64)) (hw _ (List.mem_of_getElem? (i := 14) rfl)) ?_
  refine Run.ldiv K d3_20 (pc' := 21) rfl (by decide) ?_
  refine Run.lstore K d3_21 (pc' := 23) rfl (L' := #[.val (.ref a1), .val (.int (Int32.ofNat q)), .val (.long (0 : Int64)), .second, .val (.long ((((3 : Int64) * ((Int32.ofNat q).toInt64)) + (99 : Int64)) / (100 : Int64))), .second]) rfl ?_
  refine Run.aloadN K d3_23 (pc' := 24) rfl rfl rfl ?_
  refine Run.lload K d3_24 (pc' := 26) rfl rfl ?_
  refine Run.lconst K d3_26 (pc' := 27) rfl (v := (1 : Int64)) rfl ?_
  refine Run.callS K d3_27 (pc' := 30) rfl (hw _ (List.mem_of_getElem? (i := 15) rfl)) (hw _ (List.mem_of_getElem? (i := 6) rfl)) (hw _ (List.mem_of_getElem? (i := 3) rfl)) (hw _ (List.mem_of_getElem? (i := 7) rfl)) (by decide) (rm2 l Z a0 n0 hw [] (((((3 : Int64) * ((Int32.ofNat q).toInt64)) + (99 : Int64)) / (100 : Int64))) ((1 : Int64)) (Ob) ((a1, .long, [(.long y0), (.long y1), (.long y2)]) :: Ax) ) (argsL := [(.long ((((3 : Int64) * ((Int32.ofNat q).toInt64)) + (99 : Int64)) / (100 : Int64))), (.long (1 : Int64))]) (rest := [(.ref a1)]) rfl rfl pd_0 rfl (W := 1) rfl (by decide) (by decide) (cells' := 0) (slots' := 0) rfl rfl (by decide) (by decide) ?_
  intro vq Dq hq
  obtain ⟨c98, hc99, rfl, rfl⟩ := hq
  refine Run.as2 (D' := (Ob, (a1, .long, [(.long y0), (.long y1), (.long y2)]) :: Ax)) (S' := [(.long c98), (.ref a1)]) rfl rfl ?_
  refine Run.l2i K d3_30 (pc' := 31) rfl ?_
  refine Run.iconst K d3_31 (pc' := 32) rfl (v := (1 : Int32)) rfl ?_
  refine Run.isub K d3_32 (pc' := 33) rfl ?_
  rcases (own_ix3 hq hc99 : ((c98.toInt32) - (1 : Int32)) = (0 : Int32) ∨ ((c98.toInt32) - (1 : Int32)) = (1 : Int32) ∨ ((c98.toInt32) - (1 : Int32)) = (2 : Int32)) with hq100 | hq100 | hq100
  · rw [hq100]
    refine Run.laload K d3_33 (pc' := 34) rfl (i := 0) (q := 0) rfl (by decide) (by decide) (v := (.long y0)) (rfl) ?_
    refine Run.lstoreN K d3_34 (pc' := 35) rfl (L' := #[.val (.ref a1), .val (.int (Int32.ofNat q)), .val (.long y0), .second, .val (.long ((((3 : Int64) * ((Int32.ofNat q).toInt64)) + (99 : Int64)) / (100 : Int64))), .second]) rfl ?_
    refine Run.lloadN K d3_35 (pc' := 36) rfl rfl ?_
    exact Run.retJ K d3_36 rfl (by decide) (by decide) ⟨c98, _, ⟨hc99, Or.inl ⟨hq100, rfl⟩⟩, rfl, rfl⟩
  · rw [hq100]
    refine Run.laload K d3_33 (pc' := 34) rfl (i := 0) (q := 1) rfl (by decide) (by decide) (v := (.long y1)) (rfl) ?_
    refine Run.lstoreN K d3_34 (pc' := 35) rfl (L' := #[.val (.ref a1), .val (.int (Int32.ofNat q)), .val (.long y1), .second, .val (.long ((((3 : Int64) * ((Int32.ofNat q).toInt64)) + (99 : Int64)) / (100 : Int64))), .second]) rfl ?_
    refine Run.lloadN K d3_35 (pc' := 36) rfl rfl ?_
    exact Run.retJ K d3_36 rfl (by decide) (by decide) ⟨c98, _, ⟨hc99, Or.inr (Or.inl ⟨hq100, rfl⟩)⟩, rfl, rfl⟩
  · rw [hq100]
    refine Run.laload K d3_33 (pc' := 34) rfl (i := 0) (q := 2) rfl (by decide) (by decide) (v := (.long y2)) (rfl) ?_
    refine Run.lstoreN K d3_34 (pc' := 35) rfl (L' := #[.val (.ref a1), .val (.int (Int32.ofNat q)), .val (.long y2), .second, .val (.long ((((3 : Int64) * ((Int32.ofNat q).toInt64)) + (99 : Int64)) / (100 : Int64))), .second]) rfl ?_
    refine Run.lloadN K d3_35 (pc' := 36) rfl rfl ?_
    exact Run.retJ K d3_36 rfl (by decide) (by decide) ⟨c98, _, ⟨hc99, Or.inr (Or.inr (⟨hq100, rfl⟩))⟩, rfl, rfl⟩
set_option maxRecDepth 65536 in
set_option maxHeartbeats 40000000 in
theorem cnt_3 (l : Launch) (Z : State) (a0 : Array Value) (n0 : Nat) (hw : ∀ d ∈ tables_1, d.before a0 Z = true) (ws : List Jvm.Cond) (p1 : Int64) (p2 : Int32) (x0 : Int64) (x1 : Int64) (x2 : Int64) (x3 : Int64) (Ob : List OObj) (Ax : List OArr) (e1 : p2 = (3 : Int32)) : Con l Z a0 n0 ws (⟨"com/example/claim_queue/claimqueue/bench/ReportPercentilePinLaw", "cnt", "(JIJJJJ)J"⟩ : MethodName) method_3_code 13 (some .long) ({ frames := 0, cells := 0, slots := 0, locals := 0 } : Room) #[(.long p1), (.int p2), (.long x0), (.long x1), (.long x2), (.long x3)] (Ob, Ax) (fun vq Dq => ∃ (w : Int64), (w.toInt = own_c p1 [x0, x1, x2]) ∧ vq = (some (.long w)) ∧ Dq = (Ob, Ax)) := by
  refine Con.of_run (plainFor_of_name pn_1) (L0 := #[.val (.long p1), .second, .val (.int p2), .val (.long x0), .second, .val (.long x1), .second, .val (.long x2), .second, .val (.long x3), .second, .unset, .unset]) (fun m => by first | (simp [entryFrame, mkF, argsToLocals, Value.category]; done) | rfl) ?_
  intro p e s m below meth c K
  subst e1
  refine Run.lconst K d4_0 (pc' := 1) rfl (v := (0 : Int64)) rfl ?_
  refine Run.lstore K d4_1 (pc' := 3) rfl (L' := #[.val (.long p1), .second, .val (.int (3 : Int32)), .val (.long x0), .second, .val (.long x1), .second, .val (.long x2), .second, .val (.long x3), .second, .val (.long (0 : Int64)), .second]) rfl ?_
  refine Run.iloadN K d4_3 (pc' := 4) rfl rfl ?_
  refine Run.ifcF K d4_4 (pT := 19) (pF := 7) (by decide) (by decide) rfl (show ¬ ((3 : Int32) ≤ (0 : Int32)) from by decide) ?_
  refine Run.lloadN K d4_7 (pc' := 8) rfl rfl ?_
  refine Run.lloadN K d4_8 (pc' := 9) rfl rfl ?_
  refine Run.lcmp K d4_9 (pc' := 10) rfl ?_
  refine Run.join1 (F := fun (j115 : Int64) => ((p1 < x0) ∧ j115 = (0 : Int64)) ∨ ((¬ (p1 < x0)) ∧ j115 = (1 : Int64))) (D' := fun (j115 : Int64) => (Ob, Ax)) (cells' := 0) (slots' := 0) (pc' := 19) (L' := fun (j115 : Int64) => #[.val (.long p1), .second, .val (.int (3 : Int32)), .val (.long x0), .second, .val (.long x1), .second, .val (.long x2), .second, .val (.long x3), .second, .val (.long j115), .second]) (S' := fun (j115 : Int64) => []) ?_ (fun J10 => ?_)
  · intro j115 hjj115
    refine Run.iloadN K d4_19 (pc' := 20) rfl rfl ?_
    refine Run.iconst K d4_20 (pc' := 21) rfl (v := (1 : Int32)) rfl ?_
    refine Run.icmpF K d4_21 (pT := 37) (pF := 24) (by decide) (by decide) rfl (show ¬ ((3 : Int32) ≤ (1 : Int32)) from by decide) ?_
    refine Run.lload K d4_24 (pc' := 26) rfl rfl ?_
    refine Run.lloadN K d4_26 (pc' := 27) rfl rfl ?_
    refine Run.lcmp K d4_27 (pc' := 28) rfl ?_
    refine Run.join1 (F := fun (j118 : Int64) => ((p1 < x1) ∧ j118 = j115) ∨ ((¬ (p1 < x1)) ∧ j118 = (j115 + (1 : Int64)))) (D' := fun (j118 : Int64) => (Ob, Ax)) (cells' := 0) (slots' := 0) (pc' := 37) (L' := fun (j118 : Int64) => #[.val (.long p1), .second, .val (.int (3 : Int32)), .val (.long x0), .second, .val (.long x1), .second, .val (.long x2), .second, .val (.long x3), .second, .val (.long j118), .second]) (S' := fun (j118 : Int64) => []) ?_ (fun J28 => ?_)
    · intro j118 hjj118
      refine Run.iloadN K d4_37 (pc' := 38) rfl rfl ?_
      refine Run.iconst K d4_38 (pc' := 39) rfl (v := (2 : Int32)) rfl ?_
      refine Run.icmpF K d4_39 (pT := 55) (pF := 42) (by decide) (by decide) rfl (show ¬ ((3 : Int32) ≤ (2 : Int32)) from by decide) ?_
      refine Run.lload K d4_42 (pc' := 44) rfl rfl ?_
      refine Run.lloadN K d4_44 (pc' := 45) rfl rfl ?_
      refine Run.lcmp K d4_45 (pc' := 46) rfl ?_
      refine Run.join1 (F := fun (j121 : Int64) => ((p1 < x2) ∧ j121 = j118) ∨ ((¬ (p1 < x2)) ∧ j121 = (j118 + (1 : Int64)))) (D' := fun (j121 : Int64) => (Ob, Ax)) (cells' := 0) (slots' := 0) (pc' := 55) (L' := fun (j121 : Int64) => #[.val (.long p1), .second, .val (.int (3 : Int32)), .val (.long x0), .second, .val (.long x1), .second, .val (.long x2), .second, .val (.long x3), .second, .val (.long j121), .second]) (S' := fun (j121 : Int64) => []) ?_ (fun J46 => ?_)
      · intro j121 hjj121
        refine Run.iloadN K d4_55 (pc' := 56) rfl rfl ?_
        refine Run.iconst K d4_56 (pc' := 57) rfl (v := (3 : Int32)) rfl ?_
        refine Run.icmpT K d4_57 (pT := 73) (pF := 60) (by decide) (by decide) rfl (show (3 : Int32) ≤ (3 : Int32) from by decide) ?_
        refine Run.lload K d4_73 (pc' := 75) rfl rfl ?_
        have r0 : (0 : Int64).toInt = (0 : Int) := by decide
        have r1 := own_cs r0 (by omega) (by omega) hjj115
        have u0 := own_ib (x0.toInt ≤ p1.toInt)
        have r2 := own_cs r1 (by omega) (by omega) hjj118
        have u1 := own_ib (x1.toInt ≤ p1.toInt)
        have r3 := own_cs r2 (by omega) (by omega) hjj121
        have u2 := own_ib (x2.toInt ≤ p1.toInt)
        refine Run.retJ K d4_75 rfl (by decide) (by decide) ⟨_, ?_, rfl, rfl⟩
        rw [r3]; simp only [own_c]; omega
      · skip
        refine Run.ifL K d4_46 (pT := 55) (pF := 49) (by decide) (by decide) rfl (fun (h46_121 : p1 < x2) => ?_) (fun (h46_121 : ¬ (p1 < x2)) => ?_)
        · skip
          exact J46 _ (Or.inl ⟨h46_121, rfl⟩)
        · skip
          refine Run.lload K d4_49 (pc' := 51) rfl rfl ?_
          refine Run.lconst K d4_51 (pc' := 52) rfl (v := (1 : Int64)) rfl ?_
          refine Run.ladd K d4_52 (pc' := 53) rfl ?_
          refine Run.lstore K d4_53 (pc' := 55) rfl (L' := #[.val (.long p1), .second, .val (.int (3 : Int32)), .val (.long x0), .second, .val (.long x1), .second, .val (.long x2), .second, .val (.long x3), .second, .val (.long (j118 + (1 : Int64))), .second]) rfl ?_
          exact J46 _ (Or.inr (⟨h46_121, rfl⟩))
    · skip
      refine Run.ifL K d4_28 (pT := 37) (pF := 31) (by decide) (by decide) rfl (fun (h28_122 : p1 < x1) => ?_) (fun (h28_122 : ¬ (p1 < x1)) => ?_)
      · skip
        exact J28 _ (Or.inl ⟨h28_122, rfl⟩)
      · skip
        refine Run.lload K d4_31 (pc' := 33) rfl rfl ?_
        refine Run.lconst K d4_33 (pc' := 34) rfl (v := (1 : Int64)) rfl ?_
        refine Run.ladd K d4_34 (pc' := 35) rfl ?_
        refine Run.lstore K d4_35 (pc' := 37) rfl (L' := #[.val (.long p1), .second, .val (.int (3 : Int32)), .val (.long x0), .second, .val (.long x1), .second, .val (.long x2), .second, .val (.long x3), .second, .val (.long (j115 + (1 : Int64))), .second]) rfl ?_
        exact J28 _ (Or.inr (⟨h28_122, rfl⟩))
  · skip
    refine Run.ifL K d4_10 (pT := 19) (pF := 13) (by decide) (by decide) rfl (fun (h10_123 : p1 < x0) => ?_) (fun (h10_123 : ¬ (p1 < x0)) => ?_)
    · skip
      exact J10 _ (Or.inl ⟨h10_123, rfl⟩)
    · skip
      refine Run.lload K d4_13 (pc' := 15) rfl rfl ?_
      refine Run.lconst K d4_15 (pc' := 16) rfl (v := (1 : Int64)) rfl ?_
      refine Run.laddV K d4_16 (pc' := 17) rfl (v := (1 : Int64)) (by decide) ?_
      refine Run.lstore K d4_17 (pc' := 19) rfl (L' := #[.val (.long p1), .second, .val (.int (3 : Int32)), .val (.long x0), .second, .val (.long x1), .second, .val (.long x2), .second, .val (.long x3), .second, .val (.long (1 : Int64)), .second]) rfl ?_
      exact J10 _ (Or.inr (⟨h10_123, rfl⟩))
set_option maxRecDepth 65536 in
set_option maxHeartbeats 40000000 in
theorem fi_3 (l : Launch) (Z : State) (a0 : Array Value) (n0 : Nat) (hw : ∀ d ∈ tables_1, d.before a0 Z = true) (ws : List Jvm.Cond) (p1 : Int64) (p2 : Int64) (p3 : Int32) (p4 : Int64) (x0 : Int64) (x1 : Int64) (x2 : Int64) (x3 : Int64) (Ob : List OObj) (Ax : List OArr) (e1 : p3 = (3 : Int32)) : Con l Z a0 n0 ws (⟨"com/example/claim_queue/claimqueue/bench/ReportPercentilePinLaw", "fine", "(JJIJJJJJ)Z"⟩ : MethodName) method_4_code 15 (some .boolean) ({ frames := 1, cells := 0, slots := 0, locals := 26 } : Room) #[(.long p1), (.long p2), (.int p3), (.long p4), (.long x0), (.long x1), (.long x2), (.long x3)] (Ob, Ax) (fun vq Dq => ∃ (j130 : Int32), ((((p2 ≤ p1) ∧ j130 = (1 : Int32)) ∨ (∃ (c127 : Int64), (¬ (p2 ≤ p1)) ∧ (c127.toInt = own_c p1 [x0, x1, x2]) ∧ (p4 ≤ ((100 : Int64) * c127)) ∧ j130 = (0 : Int32)) ∨ (∃ (c127 : Int64), (¬ (p2 ≤ p1)) ∧ (c127.toInt = own_c p1 [x0, x1, x2]) ∧ (¬ (p4 ≤ ((100 : Int64) * c127))) ∧ j130 = (1 : Int32)))) ∧ vq = (some (.int j130)) ∧ Dq = (Ob, Ax)) := by
  refine Con.of_run (plainFor_of_name pn_1) (L0 := #[.val (.long p1), .second, .val (.long p2), .second, .val (.int p3), .val (.long p4), .second, .val (.long x0), .second, .val (.long x1), .second, .val (.long x2), .second, .val (.long x3), .second]) (fun m => by first | (simp [entryFrame, mkF, argsToLocals, Value.category]; done) | rfl) ?_
  intro p e s m below meth c K
  subst e1
  refine Run.lloadN K d5_0 (pc' := 1) rfl rfl ?_
  refine Run.lloadN K d5_1 (pc' := 2) rfl rfl ?_
  refine Run.lcmp K d5_2 (pc' := 3) rfl ?_
  refine Run.join1 (F := fun (j140 : Int32) => ((p2 ≤ p1) ∧ j140 = (1 : Int32)) ∨ (∃ (c137 : Int64), (¬ (p2 ≤ p1)) ∧ (c137.toInt = own_c p1 [x0, x1, x2]) ∧ (p4 ≤ ((100 : Int64) * c137)) ∧ j140 = (0 : Int32)) ∨ (∃ (c137 : Int64), (¬ (p2 ≤ p1)) ∧ (c137.toInt = own_c p1 [x0, x1, x2]) ∧ (¬ (p4 ≤ ((100 : Int64) * c137))) ∧ j140 = (1 : Int32))) (D' := fun (j140 : Int32) => (Ob, Ax)) (cells' := 0) (slots' := 0) (pc' := 35) (L' := fun (j140 : Int32) => #[.val (.long p1), .second, .val (.long p2), .second, .val (.int (3 : Int32)), .val (.long p4), .second, .val (.long x0), .second, .val (.long x1), .second, .val (.long x2), .second, .val (.long x3), .second]) (S' := fun (j140 : Int32) => [(.int j140)]) ?_ (fun J3 => ?_)
  · intro j140 hjj140
    exact Run.retN K d5_35 (w := j140) rfl (by decide) (own_bool (by rcases hjj140 with ⟨-, q⟩ | ⟨_, -, -, -, q⟩ | ⟨_, -, -, -, q⟩ <;> first | exact Or.inl q | exact Or.inr q)) (by decide) (by decide) ⟨j140, hjj140, rfl, rfl⟩
  · skip
    refine Run.ifL K d5_3 (pT := 30) (pF := 6) (by decide) (by decide) rfl (fun (h3_140 : p2 ≤ p1) => ?_) (fun (h3_140 : ¬ (p2 ≤ p1)) => ?_)
    · skip
      refine Run.iconst K d5_30 (pc' := 31) rfl (v := (1 : Int32)) rfl ?_
      refine Run.goto K d5_31 (pc' := 35) (by decide) (by decide) ?_
      exact J3 _ (Or.inl ⟨h3_140, rfl⟩)
    · skip
      refine Run.ldcJ K d5_6 (pc' := 9) rfl (v := (100 : Int64)) (hw _ (List.mem_of_getElem? (i := 16) rfl)) ?_
      refine Run.lloadN K d5_9 (pc' := 10) rfl rfl ?_
      refine Run.iload K d5_10 (pc' := 12) rfl rfl ?_
      refine Run.lload K d5_12 (pc' := 14) rfl rfl ?_
      refine Run.lload K d5_14 (pc' := 16) rfl rfl ?_
      refine Run.lload K d5_16 (pc' := 18) rfl rfl ?_
      refine Run.lload K d5_18 (pc' := 20) rfl rfl ?_
      refine Run.callS K d5_20 (pc' := 23) rfl (hw _ (List.mem_of_getElem? (i := 17) rfl)) (hw _ (List.mem_of_getElem? (i := 18) rfl)) (hw _ (List.mem_of_getElem? (i := 19) rfl)) (hw _ (List.mem_of_getElem? (i := 20) rfl)) (by decide) (cnt_3 l Z a0 n0 hw [] (p1) ((3 : Int32)) (x0) (x1) (x2) (x3) (Ob) (Ax) (rfl)) (argsL := [(.long p1), (.int (3 : Int32)), (.long x0), (.long x1), (.long x2), (.long x3)]) (rest := [(.long (100 : Int64))]) rfl rfl pd_1 rfl (W := 2) rfl (by decide) (by decide) (cells' := 0) (slots' := 0) rfl rfl (by decide) (by decide) ?_
      intro vq Dq hq
      obtain ⟨c142, hc143, rfl, rfl⟩ := hq
      refine Run.as2 (D' := (Ob, Ax)) (S' := [(.long c142), (.long (100 : Int64))]) rfl rfl ?_
      refine Run.lmul K d5_23 (pc' := 24) rfl ?_
      refine Run.lload K d5_24 (pc' := 26) rfl rfl ?_
      refine Run.lcmp K d5_26 (pc' := 27) rfl ?_
      refine Run.ifL K d5_27 (pT := 34) (pF := 30) (by decide) (by decide) rfl (fun (h27_143 : p4 ≤ ((100 : Int64) * c142)) => ?_) (fun (h27_143 : ¬ (p4 ≤ ((100 : Int64) * c142))) => ?_)
      · skip
        refine Run.iconst K d5_34 (pc' := 35) rfl (v := (0 : Int32)) rfl ?_
        exact J3 _ (Or.inr (Or.inl ⟨c142, h3_140, hc143, h27_143, rfl⟩))
      · skip
        refine Run.iconst K d5_30 (pc' := 31) rfl (v := (1 : Int32)) rfl ?_
        refine Run.goto K d5_31 (pc' := 35) (by decide) (by decide) ?_
        exact J3 _ (Or.inr (Or.inr (⟨c142, h3_140, hc143, h27_143, rfl⟩)))
set_option maxRecDepth 65536 in
set_option maxHeartbeats 40000000 in
theorem pc_4 (l : Launch) (Z : State) (a0 : Array Value) (n0 : Nat) (hw : ∀ d ∈ tables_1, d.before a0 Z = true) (ws : List Jvm.Cond) (a1 : Addr) (p1 : Int32) (y0 : Int64) (y1 : Int64) (y2 : Int64) (y3 : Int64) (q : Nat) (Ob : List OObj) (Ax : List OArr) (e1 : p1 = Int32.ofNat q) (hq : q ≤ 100) : Con l Z a0 n0 ws (⟨"com/example/claim_queue/claimqueue/bench/Report", "percentile", "([JI)J"⟩ : MethodName) prog_3_method_3_code 6 (some .long) ({ frames := 1, cells := 0, slots := 0, locals := 16 } : Room) #[(.ref a1), (.int p1)] (Ob, (a1, .long, [(.long y0), (.long y1), (.long y2), (.long y3)]) :: Ax) (fun vq Dq => ∃ (c145 : Int64), ∃ (j148 : Int64), (((((((((4 : Int64) * ((Int32.ofNat q).toInt64)) + (99 : Int64)) / (100 : Int64)) < (1 : Int64)) ∧ c145 = (1 : Int64)) ∨ ((¬ (((((4 : Int64) * ((Int32.ofNat q).toInt64)) + (99 : Int64)) / (100 : Int64)) < (1 : Int64))) ∧ c145 = ((((4 : Int64) * ((Int32.ofNat q).toInt64)) + (99 : Int64)) / (100 : Int64))))) ∧ (((((c145.toInt32) - (1 : Int32)) = (0 : Int32)) ∧ j148 = y0) ∨ ((((c145.toInt32) - (1 : Int32)) = (1 : Int32)) ∧ j148 = y1) ∨ ((((c145.toInt32) - (1 : Int32)) = (2 : Int32)) ∧ j148 = y2) ∨ ((((c145.toInt32) - (1 : Int32)) = (3 : Int32)) ∧ j148 = y3))) ∧ vq = (some (.long j148)) ∧ Dq = (Ob, (a1, .long, [(.long y0), (.long y1), (.long y2), (.long y3)]) :: Ax)) := by
  refine Con.of_run (plainFor_of_name pn_0) (L0 := #[.val (.ref a1), .val (.int p1), .unset, .unset, .unset, .unset]) (fun m => by first | (simp [entryFrame, mkF, argsToLocals, Value.category]; done) | rfl) ?_
  intro p e s m below meth c K
  subst e1
  refine Run.lconst K d3_0 (pc' := 1) rfl (v := (0 : Int64)) rfl ?_
  refine Run.lstoreN K d3_1 (pc' := 2) rfl (L' := #[.val (.ref a1), .val (.int (Int32.ofNat q)), .val (.long (0 : Int64)), .second, .unset, .unset]) rfl ?_
  refine Run.aloadN K d3_2 (pc' := 3) rfl rfl rfl ?_
  refine Run.alen K d3_3 (pc' := 4) rfl (i := 0) rfl (w := (4 : Int32)) (rfl) ?_
  refine Run.ifcF K d3_4 (pT := 35) (pF := 7) (by decide) (by decide) rfl (show ¬ ((4 : Int32) ≤ (0 : Int32)) from by decide) ?_
  refine Run.aloadN K d3_7 (pc' := 8) rfl rfl rfl ?_
  refine Run.alen K d3_8 (pc' := 9) rfl (i := 0) rfl (w := (4 : Int32)) (rfl) ?_
  refine Run.i2lV K d3_9 (pc' := 10) rfl (v := (4 : Int64)) (by decide) ?_
  refine Run.iloadN K d3_10 (pc' := 11) rfl rfl ?_
  refine Run.i2l K d3_11 (pc' := 12) rfl ?_
  refine Run.lmul K d3_12 (pc' := 13) rfl ?_
  refine Run.ldcJ K d3_13 (pc' := 16) rfl (v := (99 : Int64)) (hw _ (List.mem_of_getElem? (i := 13) rfl)) ?_
  refine Run.ladd K d3_16 (pc' := 17) rfl ?_
  refine Run.ldcJ K d3_17 (pc' := 20) rfl (v := (100 : Int64)) (hw _ (List.mem_of_getElem? (i := 14) rfl)) ?_
  refine Run.ldiv K d3_20 (pc' := 21) rfl (by decide) ?_
  refine Run.lstore K d3_21 (pc' := 23) rfl (L' := #[.val (.ref a1), .val (.int (Int32.ofNat q)), .val (.long (0 : Int64)), .second, .val (.long ((((4 : Int64) * ((Int32.ofNat q).toInt64)) + (99 : Int64)) / (100 : Int64))), .second]) rfl ?_
  refine Run.aloadN K d3_23 (pc' := 24) rfl rfl rfl ?_
  refine Run.lload K d3_24 (pc' := 26) rfl rfl ?_
  refine Run.lconst K d3_26 (pc' := 27) rfl (v := (1 : Int64)) rfl ?_
  refine Run.callS K d3_27 (pc' := 30) rfl (hw _ (List.mem_of_getElem? (i := 15) rfl)) (hw _ (List.mem_of_getElem? (i := 6) rfl)) (hw _ (List.mem_of_getElem? (i := 3) rfl)) (hw _ (List.mem_of_getElem? (i := 7) rfl)) (by decide) (rm2 l Z a0 n0 hw [] (((((4 : Int64) * ((Int32.ofNat q).toInt64)) + (99 : Int64)) / (100 : Int64))) ((1 : Int64)) (Ob) ((a1, .long, [(.long y0), (.long y1), (.long y2), (.long y3)]) :: Ax) ) (argsL := [(.long ((((4 : Int64) * ((Int32.ofNat q).toInt64)) + (99 : Int64)) / (100 : Int64))), (.long (1 : Int64))]) (rest := [(.ref a1)]) rfl rfl pd_0 rfl (W := 1) rfl (by decide) (by decide) (cells' := 0) (slots' := 0) rfl rfl (by decide) (by decide) ?_
  intro vq Dq hq
  obtain ⟨c149, hc150, rfl, rfl⟩ := hq
  refine Run.as2 (D' := (Ob, (a1, .long, [(.long y0), (.long y1), (.long y2), (.long y3)]) :: Ax)) (S' := [(.long c149), (.ref a1)]) rfl rfl ?_
  refine Run.l2i K d3_30 (pc' := 31) rfl ?_
  refine Run.iconst K d3_31 (pc' := 32) rfl (v := (1 : Int32)) rfl ?_
  refine Run.isub K d3_32 (pc' := 33) rfl ?_
  rcases (own_ix4 hq hc150 : ((c149.toInt32) - (1 : Int32)) = (0 : Int32) ∨ ((c149.toInt32) - (1 : Int32)) = (1 : Int32) ∨ ((c149.toInt32) - (1 : Int32)) = (2 : Int32) ∨ ((c149.toInt32) - (1 : Int32)) = (3 : Int32)) with hq151 | hq151 | hq151 | hq151
  · rw [hq151]
    refine Run.laload K d3_33 (pc' := 34) rfl (i := 0) (q := 0) rfl (by decide) (by decide) (v := (.long y0)) (rfl) ?_
    refine Run.lstoreN K d3_34 (pc' := 35) rfl (L' := #[.val (.ref a1), .val (.int (Int32.ofNat q)), .val (.long y0), .second, .val (.long ((((4 : Int64) * ((Int32.ofNat q).toInt64)) + (99 : Int64)) / (100 : Int64))), .second]) rfl ?_
    refine Run.lloadN K d3_35 (pc' := 36) rfl rfl ?_
    exact Run.retJ K d3_36 rfl (by decide) (by decide) ⟨c149, _, ⟨hc150, Or.inl ⟨hq151, rfl⟩⟩, rfl, rfl⟩
  · rw [hq151]
    refine Run.laload K d3_33 (pc' := 34) rfl (i := 0) (q := 1) rfl (by decide) (by decide) (v := (.long y1)) (rfl) ?_
    refine Run.lstoreN K d3_34 (pc' := 35) rfl (L' := #[.val (.ref a1), .val (.int (Int32.ofNat q)), .val (.long y1), .second, .val (.long ((((4 : Int64) * ((Int32.ofNat q).toInt64)) + (99 : Int64)) / (100 : Int64))), .second]) rfl ?_
    refine Run.lloadN K d3_35 (pc' := 36) rfl rfl ?_
    exact Run.retJ K d3_36 rfl (by decide) (by decide) ⟨c149, _, ⟨hc150, Or.inr (Or.inl ⟨hq151, rfl⟩)⟩, rfl, rfl⟩
  · rw [hq151]
    refine Run.laload K d3_33 (pc' := 34) rfl (i := 0) (q := 2) rfl (by decide) (by decide) (v := (.long y2)) (rfl) ?_
    refine Run.lstoreN K d3_34 (pc' := 35) rfl (L' := #[.val (.ref a1), .val (.int (Int32.ofNat q)), .val (.long y2), .second, .val (.long ((((4 : Int64) * ((Int32.ofNat q).toInt64)) + (99 : Int64)) / (100 : Int64))), .second]) rfl ?_
    refine Run.lloadN K d3_35 (pc' := 36) rfl rfl ?_
    exact Run.retJ K d3_36 rfl (by decide) (by decide) ⟨c149, _, ⟨hc150, Or.inr (Or.inr (Or.inl ⟨hq151, rfl⟩))⟩, rfl, rfl⟩
  · rw [hq151]
    refine Run.laload K d3_33 (pc' := 34) rfl (i := 0) (q := 3) rfl (by decide) (by decide) (v := (.long y3)) (rfl) ?_
    refine Run.lstoreN K d3_34 (pc' := 35) rfl (L' := #[.val (.ref a1), .val (.int (Int32.ofNat q)), .val (.long y3), .second, .val (.long ((((4 : Int64) * ((Int32.ofNat q).toInt64)) + (99 : Int64)) / (100 : Int64))), .second]) rfl ?_
    refine Run.lloadN K d3_35 (pc' := 36) rfl rfl ?_
    exact Run.retJ K d3_36 rfl (by decide) (by decide) ⟨c149, _, ⟨hc150, Or.inr (Or.inr (Or.inr (⟨hq151, rfl⟩)))⟩, rfl, rfl⟩
set_option maxRecDepth 65536 in
set_option maxHeartbeats 40000000 in
theorem cnt_4 (l : Launch) (Z : State) (a0 : Array Value) (n0 : Nat) (hw : ∀ d ∈ tables_1, d.before a0 Z = true) (ws : List Jvm.Cond) (p1 : Int64) (p2 : Int32) (x0 : Int64) (x1 : Int64) (x2 : Int64) (x3 : Int64) (Ob : List OObj) (Ax : List OArr) (e1 : p2 = (4 : Int32)) : Con l Z a0 n0 ws (⟨"com/example/claim_queue/claimqueue/bench/ReportPercentilePinLaw", "cnt", "(JIJJJJ)J"⟩ : MethodName) method_3_code 13 (some .long) ({ frames := 0, cells := 0, slots := 0, locals := 0 } : Room) #[(.long p1), (.int p2), (.long x0), (.long x1), (.long x2), (.long x3)] (Ob, Ax) (fun vq Dq => ∃ (w : Int64), (w.toInt = own_c p1 [x0, x1, x2, x3]) ∧ vq = (some (.long w)) ∧ Dq = (Ob, Ax)) := by
  refine Con.of_run (plainFor_of_name pn_1) (L0 := #[.val (.long p1), .second, .val (.int p2), .val (.long x0), .second, .val (.long x1), .second, .val (.long x2), .second, .val (.long x3), .second, .unset, .unset]) (fun m => by first | (simp [entryFrame, mkF, argsToLocals, Value.category]; done) | rfl) ?_
  intro p e s m below meth c K
  subst e1
  refine Run.lconst K d4_0 (pc' := 1) rfl (v := (0 : Int64)) rfl ?_
  refine Run.lstore K d4_1 (pc' := 3) rfl (L' := #[.val (.long p1), .second, .val (.int (4 : Int32)), .val (.long x0), .second, .val (.long x1), .second, .val (.long x2), .second, .val (.long x3), .second, .val (.long (0 : Int64)), .second]) rfl ?_
  refine Run.iloadN K d4_3 (pc' := 4) rfl rfl ?_
  refine Run.ifcF K d4_4 (pT := 19) (pF := 7) (by decide) (by decide) rfl (show ¬ ((4 : Int32) ≤ (0 : Int32)) from by decide) ?_
  refine Run.lloadN K d4_7 (pc' := 8) rfl rfl ?_
  refine Run.lloadN K d4_8 (pc' := 9) rfl rfl ?_
  refine Run.lcmp K d4_9 (pc' := 10) rfl ?_
  refine Run.join1 (F := fun (j170 : Int64) => ((p1 < x0) ∧ j170 = (0 : Int64)) ∨ ((¬ (p1 < x0)) ∧ j170 = (1 : Int64))) (D' := fun (j170 : Int64) => (Ob, Ax)) (cells' := 0) (slots' := 0) (pc' := 19) (L' := fun (j170 : Int64) => #[.val (.long p1), .second, .val (.int (4 : Int32)), .val (.long x0), .second, .val (.long x1), .second, .val (.long x2), .second, .val (.long x3), .second, .val (.long j170), .second]) (S' := fun (j170 : Int64) => []) ?_ (fun J10 => ?_)
  · intro j170 hjj170
    refine Run.iloadN K d4_19 (pc' := 20) rfl rfl ?_
    refine Run.iconst K d4_20 (pc' := 21) rfl (v := (1 : Int32)) rfl ?_
    refine Run.icmpF K d4_21 (pT := 37) (pF := 24) (by decide) (by decide) rfl (show ¬ ((4 : Int32) ≤ (1 : Int32)) from by decide) ?_
    refine Run.lload K d4_24 (pc' := 26) rfl rfl ?_
    refine Run.lloadN K d4_26 (pc' := 27) rfl rfl ?_
    refine Run.lcmp K d4_27 (pc' := 28) rfl ?_
    refine Run.join1 (F := fun (j173 : Int64) => ((p1 < x1) ∧ j173 = j170) ∨ ((¬ (p1 < x1)) ∧ j173 = (j170 + (1 : Int64)))) (D' := fun (j173 : Int64) => (Ob, Ax)) (cells' := 0) (slots' := 0) (pc' := 37) (L' := fun (j173 : Int64) => #[.val (.long p1), .second, .val (.int (4 : Int32)), .val (.long x0), .second, .val (.long x1), .second, .val (.long x2), .second, .val (.long x3), .second, .val (.long j173), .second]) (S' := fun (j173 : Int64) => []) ?_ (fun J28 => ?_)
    · intro j173 hjj173
      refine Run.iloadN K d4_37 (pc' := 38) rfl rfl ?_
      refine Run.iconst K d4_38 (pc' := 39) rfl (v := (2 : Int32)) rfl ?_
      refine Run.icmpF K d4_39 (pT := 55) (pF := 42) (by decide) (by decide) rfl (show ¬ ((4 : Int32) ≤ (2 : Int32)) from by decide) ?_
      refine Run.lload K d4_42 (pc' := 44) rfl rfl ?_
      refine Run.lloadN K d4_44 (pc' := 45) rfl rfl ?_
      refine Run.lcmp K d4_45 (pc' := 46) rfl ?_
      refine Run.join1 (F := fun (j176 : Int64) => ((p1 < x2) ∧ j176 = j173) ∨ ((¬ (p1 < x2)) ∧ j176 = (j173 + (1 : Int64)))) (D' := fun (j176 : Int64) => (Ob, Ax)) (cells' := 0) (slots' := 0) (pc' := 55) (L' := fun (j176 : Int64) => #[.val (.long p1), .second, .val (.int (4 : Int32)), .val (.long x0), .second, .val (.long x1), .second, .val (.long x2), .second, .val (.long x3), .second, .val (.long j176), .second]) (S' := fun (j176 : Int64) => []) ?_ (fun J46 => ?_)
      · intro j176 hjj176
        refine Run.iloadN K d4_55 (pc' := 56) rfl rfl ?_
        refine Run.iconst K d4_56 (pc' := 57) rfl (v := (3 : Int32)) rfl ?_
        refine Run.icmpF K d4_57 (pT := 73) (pF := 60) (by decide) (by decide) rfl (show ¬ ((4 : Int32) ≤ (3 : Int32)) from by decide) ?_
        refine Run.lload K d4_60 (pc' := 62) rfl rfl ?_
        refine Run.lloadN K d4_62 (pc' := 63) rfl rfl ?_
        refine Run.lcmp K d4_63 (pc' := 64) rfl ?_
        refine Run.join1 (F := fun (j179 : Int64) => ((p1 < x3) ∧ j179 = j176) ∨ ((¬ (p1 < x3)) ∧ j179 = (j176 + (1 : Int64)))) (D' := fun (j179 : Int64) => (Ob, Ax)) (cells' := 0) (slots' := 0) (pc' := 73) (L' := fun (j179 : Int64) => #[.val (.long p1), .second, .val (.int (4 : Int32)), .val (.long x0), .second, .val (.long x1), .second, .val (.long x2), .second, .val (.long x3), .second, .val (.long j179), .second]) (S' := fun (j179 : Int64) => []) ?_ (fun J64 => ?_)
        · intro j179 hjj179
          refine Run.lload K d4_73 (pc' := 75) rfl rfl ?_
          have r0 : (0 : Int64).toInt = (0 : Int) := by decide
          have r1 := own_cs r0 (by omega) (by omega) hjj170
          have u0 := own_ib (x0.toInt ≤ p1.toInt)
          have r2 := own_cs r1 (by omega) (by omega) hjj173
          have u1 := own_ib (x1.toInt ≤ p1.toInt)
          have r3 := own_cs r2 (by omega) (by omega) hjj176
          have u2 := own_ib (x2.toInt ≤ p1.toInt)
          have r4 := own_cs r3 (by omega) (by omega) hjj179
          have u3 := own_ib (x3.toInt ≤ p1.toInt)
          refine Run.retJ K d4_75 rfl (by decide) (by decide) ⟨_, ?_, rfl, rfl⟩
          rw [r4]; simp only [own_c]; omega
        · skip
          refine Run.ifL K d4_64 (pT := 73) (pF := 67) (by decide) (by decide) rfl (fun (h64_179 : p1 < x3) => ?_) (fun (h64_179 : ¬ (p1 < x3)) => ?_)
          · skip
            exact J64 _ (Or.inl ⟨h64_179, rfl⟩)
          · skip
            refine Run.lload K d4_67 (pc' := 69) rfl rfl ?_
            refine Run.lconst K d4_69 (pc' := 70) rfl (v := (1 : Int64)) rfl ?_
            refine Run.ladd K d4_70 (pc' := 71) rfl ?_
            refine Run.lstore K d4_71 (pc' := 73) rfl (L' := #[.val (.long p1), .second, .val (.int (4 : Int32)), .val (.long x0), .second, .val (.long x1), .second, .val (.long x2), .second, .val (.long x3), .second, .val (.long (j176 + (1 : Int64))), .second]) rfl ?_
            exact J64 _ (Or.inr (⟨h64_179, rfl⟩))
      · skip
        refine Run.ifL K d4_46 (pT := 55) (pF := 49) (by decide) (by decide) rfl (fun (h46_180 : p1 < x2) => ?_) (fun (h46_180 : ¬ (p1 < x2)) => ?_)
        · skip
          exact J46 _ (Or.inl ⟨h46_180, rfl⟩)
        · skip
          refine Run.lload K d4_49 (pc' := 51) rfl rfl ?_
          refine Run.lconst K d4_51 (pc' := 52) rfl (v := (1 : Int64)) rfl ?_
          refine Run.ladd K d4_52 (pc' := 53) rfl ?_
          refine Run.lstore K d4_53 (pc' := 55) rfl (L' := #[.val (.long p1), .second, .val (.int (4 : Int32)), .val (.long x0), .second, .val (.long x1), .second, .val (.long x2), .second, .val (.long x3), .second, .val (.long (j173 + (1 : Int64))), .second]) rfl ?_
          exact J46 _ (Or.inr (⟨h46_180, rfl⟩))
    · skip
      refine Run.ifL K d4_28 (pT := 37) (pF := 31) (by decide) (by decide) rfl (fun (h28_181 : p1 < x1) => ?_) (fun (h28_181 : ¬ (p1 < x1)) => ?_)
      · skip
        exact J28 _ (Or.inl ⟨h28_181, rfl⟩)
      · skip
        refine Run.lload K d4_31 (pc' := 33) rfl rfl ?_
        refine Run.lconst K d4_33 (pc' := 34) rfl (v := (1 : Int64)) rfl ?_
        refine Run.ladd K d4_34 (pc' := 35) rfl ?_
        refine Run.lstore K d4_35 (pc' := 37) rfl (L' := #[.val (.long p1), .second, .val (.int (4 : Int32)), .val (.long x0), .second, .val (.long x1), .second, .val (.long x2), .second, .val (.long x3), .second, .val (.long (j170 + (1 : Int64))), .second]) rfl ?_
        exact J28 _ (Or.inr (⟨h28_181, rfl⟩))
  · skip
    refine Run.ifL K d4_10 (pT := 19) (pF := 13) (by decide) (by decide) rfl (fun (h10_182 : p1 < x0) => ?_) (fun (h10_182 : ¬ (p1 < x0)) => ?_)
    · skip
      exact J10 _ (Or.inl ⟨h10_182, rfl⟩)
    · skip
      refine Run.lload K d4_13 (pc' := 15) rfl rfl ?_
      refine Run.lconst K d4_15 (pc' := 16) rfl (v := (1 : Int64)) rfl ?_
      refine Run.laddV K d4_16 (pc' := 17) rfl (v := (1 : Int64)) (by decide) ?_
      refine Run.lstore K d4_17 (pc' := 19) rfl (L' := #[.val (.long p1), .second, .val (.int (4 : Int32)), .val (.long x0), .second, .val (.long x1), .second, .val (.long x2), .second, .val (.long x3), .second, .val (.long (1 : Int64)), .second]) rfl ?_
      exact J10 _ (Or.inr (⟨h10_182, rfl⟩))
set_option maxRecDepth 65536 in
set_option maxHeartbeats 40000000 in
theorem fi_4 (l : Launch) (Z : State) (a0 : Array Value) (n0 : Nat) (hw : ∀ d ∈ tables_1, d.before a0 Z = true) (ws : List Jvm.Cond) (p1 : Int64) (p2 : Int64) (p3 : Int32) (p4 : Int64) (x0 : Int64) (x1 : Int64) (x2 : Int64) (x3 : Int64) (Ob : List OObj) (Ax : List OArr) (e1 : p3 = (4 : Int32)) : Con l Z a0 n0 ws (⟨"com/example/claim_queue/claimqueue/bench/ReportPercentilePinLaw", "fine", "(JJIJJJJJ)Z"⟩ : MethodName) method_4_code 15 (some .boolean) ({ frames := 1, cells := 0, slots := 0, locals := 26 } : Room) #[(.long p1), (.long p2), (.int p3), (.long p4), (.long x0), (.long x1), (.long x2), (.long x3)] (Ob, Ax) (fun vq Dq => ∃ (j189 : Int32), ((((p2 ≤ p1) ∧ j189 = (1 : Int32)) ∨ (∃ (c186 : Int64), (¬ (p2 ≤ p1)) ∧ (c186.toInt = own_c p1 [x0, x1, x2, x3]) ∧ (p4 ≤ ((100 : Int64) * c186)) ∧ j189 = (0 : Int32)) ∨ (∃ (c186 : Int64), (¬ (p2 ≤ p1)) ∧ (c186.toInt = own_c p1 [x0, x1, x2, x3]) ∧ (¬ (p4 ≤ ((100 : Int64) * c186))) ∧ j189 = (1 : Int32)))) ∧ vq = (some (.int j189)) ∧ Dq = (Ob, Ax)) := by
  refine Con.of_run (plainFor_of_name pn_1) (L0 := #[.val (.long p1), .second, .val (.long p2), .second, .val (.int p3), .val (.long p4), .second, .val (.long x0), .second, .val (.long x1), .second, .val (.long x2), .second, .val (.long x3), .second]) (fun m => by first | (simp [entryFrame, mkF, argsToLocals, Value.category]; done) | rfl) ?_
  intro p e s m below meth c K
  subst e1
  refine Run.lloadN K d5_0 (pc' := 1) rfl rfl ?_
  refine Run.lloadN K d5_1 (pc' := 2) rfl rfl ?_
  refine Run.lcmp K d5_2 (pc' := 3) rfl ?_
  refine Run.join1 (F := fun (j199 : Int32) => ((p2 ≤ p1) ∧ j199 = (1 : Int32)) ∨ (∃ (c196 : Int64), (¬ (p2 ≤ p1)) ∧ (c196.toInt = own_c p1 [x0, x1, x2, x3]) ∧ (p4 ≤ ((100 : Int64) * c196)) ∧ j199 = (0 : Int32)) ∨ (∃ (c196 : Int64), (¬ (p2 ≤ p1)) ∧ (c196.toInt = own_c p1 [x0, x1, x2, x3]) ∧ (¬ (p4 ≤ ((100 : Int64) * c196))) ∧ j199 = (1 : Int32))) (D' := fun (j199 : Int32) => (Ob, Ax)) (cells' := 0) (slots' := 0) (pc' := 35) (L' := fun (j199 : Int32) => #[.val (.long p1), .second, .val (.long p2), .second, .val (.int (4 : Int32)), .val (.long p4), .second, .val (.long x0), .second, .val (.long x1), .second, .val (.long x2), .second, .val (.long x3), .second]) (S' := fun (j199 : Int32) => [(.int j199)]) ?_ (fun J3 => ?_)
  · intro j199 hjj199
    exact Run.retN K d5_35 (w := j199) rfl (by decide) (own_bool (by rcases hjj199 with ⟨-, q⟩ | ⟨_, -, -, -, q⟩ | ⟨_, -, -, -, q⟩ <;> first | exact Or.inl q | exact Or.inr q)) (by decide) (by decide) ⟨j199, hjj199, rfl, rfl⟩
  · skip
    refine Run.ifL K d5_3 (pT := 30) (pF := 6) (by decide) (by decide) rfl (fun (h3_199 : p2 ≤ p1) => ?_) (fun (h3_199 : ¬ (p2 ≤ p1)) => ?_)
    · skip
      refine Run.iconst K d5_30 (pc' := 31) rfl (v := (1 : Int32)) rfl ?_
      refine Run.goto K d5_31 (pc' := 35) (by decide) (by decide) ?_
      exact J3 _ (Or.inl ⟨h3_199, rfl⟩)
    · skip
      refine Run.ldcJ K d5_6 (pc' := 9) rfl (v := (100 : Int64)) (hw _ (List.mem_of_getElem? (i := 16) rfl)) ?_
      refine Run.lloadN K d5_9 (pc' := 10) rfl rfl ?_
      refine Run.iload K d5_10 (pc' := 12) rfl rfl ?_
      refine Run.lload K d5_12 (pc' := 14) rfl rfl ?_
      refine Run.lload K d5_14 (pc' := 16) rfl rfl ?_
      refine Run.lload K d5_16 (pc' := 18) rfl rfl ?_
      refine Run.lload K d5_18 (pc' := 20) rfl rfl ?_
      refine Run.callS K d5_20 (pc' := 23) rfl (hw _ (List.mem_of_getElem? (i := 17) rfl)) (hw _ (List.mem_of_getElem? (i := 18) rfl)) (hw _ (List.mem_of_getElem? (i := 19) rfl)) (hw _ (List.mem_of_getElem? (i := 20) rfl)) (by decide) (cnt_4 l Z a0 n0 hw [] (p1) ((4 : Int32)) (x0) (x1) (x2) (x3) (Ob) (Ax) (rfl)) (argsL := [(.long p1), (.int (4 : Int32)), (.long x0), (.long x1), (.long x2), (.long x3)]) (rest := [(.long (100 : Int64))]) rfl rfl pd_1 rfl (W := 2) rfl (by decide) (by decide) (cells' := 0) (slots' := 0) rfl rfl (by decide) (by decide) ?_
      intro vq Dq hq
      obtain ⟨c201, hc202, rfl, rfl⟩ := hq
      refine Run.as2 (D' := (Ob, Ax)) (S' := [(.long c201), (.long (100 : Int64))]) rfl rfl ?_
      refine Run.lmul K d5_23 (pc' := 24) rfl ?_
      refine Run.lload K d5_24 (pc' := 26) rfl rfl ?_
      refine Run.lcmp K d5_26 (pc' := 27) rfl ?_
      refine Run.ifL K d5_27 (pT := 34) (pF := 30) (by decide) (by decide) rfl (fun (h27_202 : p4 ≤ ((100 : Int64) * c201)) => ?_) (fun (h27_202 : ¬ (p4 ≤ ((100 : Int64) * c201))) => ?_)
      · skip
        refine Run.iconst K d5_34 (pc' := 35) rfl (v := (0 : Int32)) rfl ?_
        exact J3 _ (Or.inr (Or.inl ⟨c201, h3_199, hc202, h27_202, rfl⟩))
      · skip
        refine Run.iconst K d5_30 (pc' := 31) rfl (v := (1 : Int32)) rfl ?_
        refine Run.goto K d5_31 (pc' := 35) (by decide) (by decide) ?_
        exact J3 _ (Or.inr (Or.inr (⟨c201, h3_199, hc202, h27_202, rfl⟩)))
theorem pd_2 : parseMethodDescriptor "([JI)J" = some ⟨[(.array .long), .int], some .long⟩ := by decide +kernel
theorem pd_3 : parseMethodDescriptor "(JJIJJJJJ)Z" = some ⟨[.long, .long, .int, .long, .long, .long, .long, .long], some .boolean⟩ := by decide +kernel
set_option maxRecDepth 65536 in
set_option maxHeartbeats 40000000 in
theorem rm0 (l : Launch) (Z : State) (a0 : Array Value) (n0 : Nat) (hw : ∀ d ∈ tables_1, d.before a0 Z = true) (ws : List Jvm.Cond) (p1 : Int64) (p2 : Int64) (p3 : Int64) (p4 : Int64) (p5 : Int32) (p6 : Int32) : Con l Z a0 n0 ws x code maxLocals ret room_1 #[(.long p1), (.long p2), (.long p3), (.long p4), (.int p5), (.int p6)] ([], []) (fun vq _ => vq = some (.int 1)) := by
  refine Con.of_run (plainFor_of_name pn_1) (L0 := #[.val (.long p1), .second, .val (.long p2), .second, .val (.long p3), .second, .val (.long p4), .second, .val (.int p5), .val (.int p6), .unset, .unset, .unset, .unset, .unset, .unset, .unset, .unset, .unset, .unset, .unset, .unset, .unset, .unset, .unset, .unset, .unset, .unset, .unset, .unset, .unset, .unset, .unset, .unset, .unset, .unset, .unset, .unset, .unset, .unset]) (fun m => by first | (simp [entryFrame, mkF, argsToLocals, Value.category, maxLocals]; done) | rfl) ?_
  intro p e s m below meth c K
  refine Run.iload K at_0 (pc' := 2) rfl rfl ?_
  refine Run.bipush K at_2 (pc' := 4) rfl (v := (7 : Int32)) rfl ?_
  refine Run.iand K at_4 (pc' := 5) rfl ?_
  refine Run.iconst K at_5 (pc' := 6) rfl (v := (5 : Int32)) rfl ?_
  refine Run.irem K at_6 (pc' := 7) rfl (by decide) ?_
  refine Run.istore K at_7 (pc' := 9) rfl (L' := #[.val (.long p1), .second, .val (.long p2), .second, .val (.long p3), .second, .val (.long p4), .second, .val (.int p5), .val (.int p6), .val (.int ((p5 &&& (7 : Int32)) % (5 : Int32))), .unset, .unset, .unset, .unset, .unset, .unset, .unset, .unset, .unset, .unset, .unset, .unset, .unset, .unset, .unset, .unset, .unset, .unset, .unset, .unset, .unset, .unset, .unset, .unset, .unset, .unset, .unset, .unset, .unset]) rfl ?_
  refine Run.iload K at_9 (pc' := 11) rfl rfl ?_
  refine Run.ldcI K at_11 (pc' := 13) rfl (v := (2147483647 : Int32)) (hw _ (List.mem_of_getElem? (i := 0) rfl)) ?_
  refine Run.iand K at_13 (pc' := 14) rfl ?_
  refine Run.bipush K at_14 (pc' := 16) rfl (v := (101 : Int32)) rfl ?_
  refine Run.irem K at_16 (pc' := 17) rfl (by decide) ?_
  refine Run.istore K at_17 (pc' := 19) rfl (L' := #[.val (.long p1), .second, .val (.long p2), .second, .val (.long p3), .second, .val (.long p4), .second, .val (.int p5), .val (.int p6), .val (.int ((p5 &&& (7 : Int32)) % (5 : Int32))), .val (.int ((p6 &&& (2147483647 : Int32)) % (101 : Int32))), .unset, .unset, .unset, .unset, .unset, .unset, .unset, .unset, .unset, .unset, .unset, .unset, .unset, .unset, .unset, .unset, .unset, .unset, .unset, .unset, .unset, .unset, .unset, .unset, .unset, .unset, .unset, .unset]) rfl ?_
  refine Run.lloadN K at_19 (pc' := 20) rfl rfl ?_
  refine Run.lloadN K at_20 (pc' := 21) rfl rfl ?_
  refine Run.callS K at_21 (pc' := 24) rfl (hw _ (List.mem_of_getElem? (i := 1) rfl)) (hw _ (List.mem_of_getElem? (i := 2) rfl)) (hw _ (List.mem_of_getElem? (i := 3) rfl)) (hw _ (List.mem_of_getElem? (i := 4) rfl)) (by decide) (rm1 l Z a0 n0 hw [] (p1) (p2) ([]) ([]) ) (argsL := [(.long p1), (.long p2)]) (rest := []) rfl rfl pd_0 rfl (W := 0) rfl (by decide) (by decide) (cells' := 0) (slots' := 0) rfl rfl (by decide) (by decide) ?_
  intro vq Dq hq
  obtain ⟨c204, hc205, rfl, rfl⟩ := hq
  refine Run.as2 (D' := ([], [])) (S' := [(.long c204)]) rfl rfl ?_
  refine Run.lstore K at_24 (pc' := 26) rfl (L' := #[.val (.long p1), .second, .val (.long p2), .second, .val (.long p3), .second, .val (.long p4), .second, .val (.int p5), .val (.int p6), .val (.int ((p5 &&& (7 : Int32)) % (5 : Int32))), .val (.int ((p6 &&& (2147483647 : Int32)) % (101 : Int32))), .val (.long c204), .second, .unset, .unset, .unset, .unset, .unset, .unset, .unset, .unset, .unset, .unset, .unset, .unset, .unset, .unset, .unset, .unset, .unset, .unset, .unset, .unset, .unset, .unset, .unset, .unset, .unset, .unset]) rfl ?_
  refine Run.lloadN K at_26 (pc' := 27) rfl rfl ?_
  refine Run.lloadN K at_27 (pc' := 28) rfl rfl ?_
  refine Run.callS K at_28 (pc' := 31) rfl (hw _ (List.mem_of_getElem? (i := 5) rfl)) (hw _ (List.mem_of_getElem? (i := 6) rfl)) (hw _ (List.mem_of_getElem? (i := 3) rfl)) (hw _ (List.mem_of_getElem? (i := 7) rfl)) (by decide) (rm2 l Z a0 n0 hw [] (p1) (p2) ([]) ([]) ) (argsL := [(.long p1), (.long p2)]) (rest := []) rfl rfl pd_0 rfl (W := 0) rfl (by decide) (by decide) (cells' := 0) (slots' := 0) rfl rfl (by decide) (by decide) ?_
  intro vq Dq hq
  obtain ⟨c206, hc207, rfl, rfl⟩ := hq
  refine Run.as2 (D' := ([], [])) (S' := [(.long c206)]) rfl rfl ?_
  refine Run.lstore K at_31 (pc' := 33) rfl (L' := #[.val (.long p1), .second, .val (.long p2), .second, .val (.long p3), .second, .val (.long p4), .second, .val (.int p5), .val (.int p6), .val (.int ((p5 &&& (7 : Int32)) % (5 : Int32))), .val (.int ((p6 &&& (2147483647 : Int32)) % (101 : Int32))), .val (.long c204), .second, .val (.long c206), .second, .unset, .unset, .unset, .unset, .unset, .unset, .unset, .unset, .unset, .unset, .unset, .unset, .unset, .unset, .unset, .unset, .unset, .unset, .unset, .unset, .unset, .unset, .unset, .unset]) rfl ?_
  refine Run.lload K at_33 (pc' := 35) rfl rfl ?_
  refine Run.lload K at_35 (pc' := 37) rfl rfl ?_
  refine Run.callS K at_37 (pc' := 40) rfl (hw _ (List.mem_of_getElem? (i := 1) rfl)) (hw _ (List.mem_of_getElem? (i := 2) rfl)) (hw _ (List.mem_of_getElem? (i := 3) rfl)) (hw _ (List.mem_of_getElem? (i := 4) rfl)) (by decide) (rm1 l Z a0 n0 hw [] (p3) (p4) ([]) ([]) ) (argsL := [(.long p3), (.long p4)]) (rest := []) rfl rfl pd_0 rfl (W := 0) rfl (by decide) (by decide) (cells' := 0) (slots' := 0) rfl rfl (by decide) (by decide) ?_
  intro vq Dq hq
  obtain ⟨c208, hc209, rfl, rfl⟩ := hq
  refine Run.as2 (D' := ([], [])) (S' := [(.long c208)]) rfl rfl ?_
  refine Run.lstore K at_40 (pc' := 42) rfl (L' := #[.val (.long p1), .second, .val (.long p2), .second, .val (.long p3), .second, .val (.long p4), .second, .val (.int p5), .val (.int p6), .val (.int ((p5 &&& (7 : Int32)) % (5 : Int32))), .val (.int ((p6 &&& (2147483647 : Int32)) % (101 : Int32))), .val (.long c204), .second, .val (.long c206), .second, .val (.long c208), .second, .unset, .unset, .unset, .unset, .unset, .unset, .unset, .unset, .unset, .unset, .unset, .unset, .unset, .unset, .unset, .unset, .unset, .unset, .unset, .unset, .unset, .unset]) rfl ?_
  refine Run.lload K at_42 (pc' := 44) rfl rfl ?_
  refine Run.lload K at_44 (pc' := 46) rfl rfl ?_
  refine Run.callS K at_46 (pc' := 49) rfl (hw _ (List.mem_of_getElem? (i := 5) rfl)) (hw _ (List.mem_of_getElem? (i := 6) rfl)) (hw _ (List.mem_of_getElem? (i := 3) rfl)) (hw _ (List.mem_of_getElem? (i := 7) rfl)) (by decide) (rm2 l Z a0 n0 hw [] (p3) (p4) ([]) ([]) ) (argsL := [(.long p3), (.long p4)]) (rest := []) rfl rfl pd_0 rfl (W := 0) rfl (by decide) (by decide) (cells' := 0) (slots' := 0) rfl rfl (by decide) (by decide) ?_
  intro vq Dq hq
  obtain ⟨c210, hc211, rfl, rfl⟩ := hq
  refine Run.as2 (D' := ([], [])) (S' := [(.long c210)]) rfl rfl ?_
  refine Run.lstore K at_49 (pc' := 51) rfl (L' := #[.val (.long p1), .second, .val (.long p2), .second, .val (.long p3), .second, .val (.long p4), .second, .val (.int p5), .val (.int p6), .val (.int ((p5 &&& (7 : Int32)) % (5 : Int32))), .val (.int ((p6 &&& (2147483647 : Int32)) % (101 : Int32))), .val (.long c204), .second, .val (.long c206), .second, .val (.long c208), .second, .val (.long c210), .second, .unset, .unset, .unset, .unset, .unset, .unset, .unset, .unset, .unset, .unset, .unset, .unset, .unset, .unset, .unset, .unset, .unset, .unset, .unset, .unset]) rfl ?_
  refine Run.lload K at_51 (pc' := 53) rfl rfl ?_
  refine Run.lload K at_53 (pc' := 55) rfl rfl ?_
  refine Run.callS K at_55 (pc' := 58) rfl (hw _ (List.mem_of_getElem? (i := 1) rfl)) (hw _ (List.mem_of_getElem? (i := 2) rfl)) (hw _ (List.mem_of_getElem? (i := 3) rfl)) (hw _ (List.mem_of_getElem? (i := 4) rfl)) (by decide) (rm1 l Z a0 n0 hw [] (c204) (c208) ([]) ([]) ) (argsL := [(.long c204), (.long c208)]) (rest := []) rfl rfl pd_0 rfl (W := 0) rfl (by decide) (by decide) (cells' := 0) (slots' := 0) rfl rfl (by decide) (by decide) ?_
  intro vq Dq hq
  obtain ⟨c212, hc213, rfl, rfl⟩ := hq
  refine Run.as2 (D' := ([], [])) (S' := [(.long c212)]) rfl rfl ?_
  refine Run.lstore K at_58 (pc' := 60) rfl (L' := #[.val (.long p1), .second, .val (.long p2), .second, .val (.long p3), .second, .val (.long p4), .second, .val (.int p5), .val (.int p6), .val (.int ((p5 &&& (7 : Int32)) % (5 : Int32))), .val (.int ((p6 &&& (2147483647 : Int32)) % (101 : Int32))), .val (.long c204), .second, .val (.long c206), .second, .val (.long c208), .second, .val (.long c210), .second, .val (.long c212), .second, .unset, .unset, .unset, .unset, .unset, .unset, .unset, .unset, .unset, .unset, .unset, .unset, .unset, .unset, .unset, .unset, .unset, .unset]) rfl ?_
  refine Run.lload K at_60 (pc' := 62) rfl rfl ?_
  refine Run.lload K at_62 (pc' := 64) rfl rfl ?_
  refine Run.callS K at_64 (pc' := 67) rfl (hw _ (List.mem_of_getElem? (i := 5) rfl)) (hw _ (List.mem_of_getElem? (i := 6) rfl)) (hw _ (List.mem_of_getElem? (i := 3) rfl)) (hw _ (List.mem_of_getElem? (i := 7) rfl)) (by decide) (rm2 l Z a0 n0 hw [] (c204) (c208) ([]) ([]) ) (argsL := [(.long c204), (.long c208)]) (rest := []) rfl rfl pd_0 rfl (W := 0) rfl (by decide) (by decide) (cells' := 0) (slots' := 0) rfl rfl (by decide) (by decide) ?_
  intro vq Dq hq
  obtain ⟨c214, hc215, rfl, rfl⟩ := hq
  refine Run.as2 (D' := ([], [])) (S' := [(.long c214)]) rfl rfl ?_
  refine Run.lstore K at_67 (pc' := 69) rfl (L' := #[.val (.long p1), .second, .val (.long p2), .second, .val (.long p3), .second, .val (.long p4), .second, .val (.int p5), .val (.int p6), .val (.int ((p5 &&& (7 : Int32)) % (5 : Int32))), .val (.int ((p6 &&& (2147483647 : Int32)) % (101 : Int32))), .val (.long c204), .second, .val (.long c206), .second, .val (.long c208), .second, .val (.long c210), .second, .val (.long c212), .second, .val (.long c214), .second, .unset, .unset, .unset, .unset, .unset, .unset, .unset, .unset, .unset, .unset, .unset, .unset, .unset, .unset, .unset, .unset]) rfl ?_
  refine Run.lload K at_69 (pc' := 71) rfl rfl ?_
  refine Run.lload K at_71 (pc' := 73) rfl rfl ?_
  refine Run.callS K at_73 (pc' := 76) rfl (hw _ (List.mem_of_getElem? (i := 1) rfl)) (hw _ (List.mem_of_getElem? (i := 2) rfl)) (hw _ (List.mem_of_getElem? (i := 3) rfl)) (hw _ (List.mem_of_getElem? (i := 4) rfl)) (by decide) (rm1 l Z a0 n0 hw [] (c206) (c210) ([]) ([]) ) (argsL := [(.long c206), (.long c210)]) (rest := []) rfl rfl pd_0 rfl (W := 0) rfl (by decide) (by decide) (cells' := 0) (slots' := 0) rfl rfl (by decide) (by decide) ?_
  intro vq Dq hq
  obtain ⟨c216, hc217, rfl, rfl⟩ := hq
  refine Run.as2 (D' := ([], [])) (S' := [(.long c216)]) rfl rfl ?_
  refine Run.lstore K at_76 (pc' := 78) rfl (L' := #[.val (.long p1), .second, .val (.long p2), .second, .val (.long p3), .second, .val (.long p4), .second, .val (.int p5), .val (.int p6), .val (.int ((p5 &&& (7 : Int32)) % (5 : Int32))), .val (.int ((p6 &&& (2147483647 : Int32)) % (101 : Int32))), .val (.long c204), .second, .val (.long c206), .second, .val (.long c208), .second, .val (.long c210), .second, .val (.long c212), .second, .val (.long c214), .second, .val (.long c216), .second, .unset, .unset, .unset, .unset, .unset, .unset, .unset, .unset, .unset, .unset, .unset, .unset, .unset, .unset]) rfl ?_
  refine Run.lload K at_78 (pc' := 80) rfl rfl ?_
  refine Run.lload K at_80 (pc' := 82) rfl rfl ?_
  refine Run.callS K at_82 (pc' := 85) rfl (hw _ (List.mem_of_getElem? (i := 5) rfl)) (hw _ (List.mem_of_getElem? (i := 6) rfl)) (hw _ (List.mem_of_getElem? (i := 3) rfl)) (hw _ (List.mem_of_getElem? (i := 7) rfl)) (by decide) (rm2 l Z a0 n0 hw [] (c206) (c210) ([]) ([]) ) (argsL := [(.long c206), (.long c210)]) (rest := []) rfl rfl pd_0 rfl (W := 0) rfl (by decide) (by decide) (cells' := 0) (slots' := 0) rfl rfl (by decide) (by decide) ?_
  intro vq Dq hq
  obtain ⟨c218, hc219, rfl, rfl⟩ := hq
  refine Run.as2 (D' := ([], [])) (S' := [(.long c218)]) rfl rfl ?_
  refine Run.lstore K at_85 (pc' := 87) rfl (L' := #[.val (.long p1), .second, .val (.long p2), .second, .val (.long p3), .second, .val (.long p4), .second, .val (.int p5), .val (.int p6), .val (.int ((p5 &&& (7 : Int32)) % (5 : Int32))), .val (.int ((p6 &&& (2147483647 : Int32)) % (101 : Int32))), .val (.long c204), .second, .val (.long c206), .second, .val (.long c208), .second, .val (.long c210), .second, .val (.long c212), .second, .val (.long c214), .second, .val (.long c216), .second, .val (.long c218), .second, .unset, .unset, .unset, .unset, .unset, .unset, .unset, .unset, .unset, .unset, .unset, .unset]) rfl ?_
  refine Run.lload K at_87 (pc' := 89) rfl rfl ?_
  refine Run.lload K at_89 (pc' := 91) rfl rfl ?_
  refine Run.callS K at_91 (pc' := 94) rfl (hw _ (List.mem_of_getElem? (i := 1) rfl)) (hw _ (List.mem_of_getElem? (i := 2) rfl)) (hw _ (List.mem_of_getElem? (i := 3) rfl)) (hw _ (List.mem_of_getElem? (i := 4) rfl)) (by decide) (rm1 l Z a0 n0 hw [] (c216) (c214) ([]) ([]) ) (argsL := [(.long c216), (.long c214)]) (rest := []) rfl rfl pd_0 rfl (W := 0) rfl (by decide) (by decide) (cells' := 0) (slots' := 0) rfl rfl (by decide) (by decide) ?_
  intro vq Dq hq
  obtain ⟨c220, hc221, rfl, rfl⟩ := hq
  refine Run.as2 (D' := ([], [])) (S' := [(.long c220)]) rfl rfl ?_
  refine Run.lstore K at_94 (pc' := 96) rfl (L' := #[.val (.long p1), .second, .val (.long p2), .second, .val (.long p3), .second, .val (.long p4), .second, .val (.int p5), .val (.int p6), .val (.int ((p5 &&& (7 : Int32)) % (5 : Int32))), .val (.int ((p6 &&& (2147483647 : Int32)) % (101 : Int32))), .val (.long c204), .second, .val (.long c206), .second, .val (.long c208), .second, .val (.long c210), .second, .val (.long c212), .second, .val (.long c214), .second, .val (.long c216), .second, .val (.long c218), .second, .val (.long c220), .second, .unset, .unset, .unset, .unset, .unset, .unset, .unset, .unset, .unset, .unset]) rfl ?_
  refine Run.lload K at_96 (pc' := 98) rfl rfl ?_
  refine Run.lload K at_98 (pc' := 100) rfl rfl ?_
  refine Run.callS K at_100 (pc' := 103) rfl (hw _ (List.mem_of_getElem? (i := 5) rfl)) (hw _ (List.mem_of_getElem? (i := 6) rfl)) (hw _ (List.mem_of_getElem? (i := 3) rfl)) (hw _ (List.mem_of_getElem? (i := 7) rfl)) (by decide) (rm2 l Z a0 n0 hw [] (c216) (c214) ([]) ([]) ) (argsL := [(.long c216), (.long c214)]) (rest := []) rfl rfl pd_0 rfl (W := 0) rfl (by decide) (by decide) (cells' := 0) (slots' := 0) rfl rfl (by decide) (by decide) ?_
  intro vq Dq hq
  obtain ⟨c222, hc223, rfl, rfl⟩ := hq
  refine Run.as2 (D' := ([], [])) (S' := [(.long c222)]) rfl rfl ?_
  refine Run.lstore K at_103 (pc' := 105) rfl (L' := #[.val (.long p1), .second, .val (.long p2), .second, .val (.long p3), .second, .val (.long p4), .second, .val (.int p5), .val (.int p6), .val (.int ((p5 &&& (7 : Int32)) % (5 : Int32))), .val (.int ((p6 &&& (2147483647 : Int32)) % (101 : Int32))), .val (.long c204), .second, .val (.long c206), .second, .val (.long c208), .second, .val (.long c210), .second, .val (.long c212), .second, .val (.long c214), .second, .val (.long c216), .second, .val (.long c218), .second, .val (.long c220), .second, .val (.long c222), .second, .unset, .unset, .unset, .unset, .unset, .unset, .unset, .unset]) rfl ?_
  have hs := own_net hc205 hc207 hc209 hc211 hc213 hc215 hc217 hc219 hc221 hc223
  clear hc205 hc207 hc209 hc211 hc213 hc215 hc217 hc219 hc221 hc223
  obtain ⟨q224, hv225, hp226⟩ := own_pct p6
  rw [hv225]
  rcases (own_n5 p5 : ((p5 &&& (7 : Int32)) % (5 : Int32)) = (0 : Int32) ∨ ((p5 &&& (7 : Int32)) % (5 : Int32)) = (1 : Int32) ∨ ((p5 &&& (7 : Int32)) % (5 : Int32)) = (2 : Int32) ∨ ((p5 &&& (7 : Int32)) % (5 : Int32)) = (3 : Int32) ∨ ((p5 &&& (7 : Int32)) % (5 : Int32)) = (4 : Int32)) with hq227 | hq227 | hq227 | hq227 | hq227
  · rw [hq227]
    refine Run.iload K at_105 (pc' := 107) rfl rfl ?_
    refine Run.newA K at_107 (pc' := 109) rfl (ty := .long) rfl (hw _ (List.mem_of_getElem? (i := 8) rfl)) (by decide) (vs := []) (rfl) (cap := 0) (by decide) (by decide) (cells' := 1) (slots' := 0) rfl rfl (by decide) (by decide) rfl (fun r228 => ?_)
    refine Run.as (D' := ([], [(r228, .long, [])])) rfl ?_
    refine Run.astore K at_109 (pc' := 111) rfl rfl (L' := #[.val (.long p1), .second, .val (.long p2), .second, .val (.long p3), .second, .val (.long p4), .second, .val (.int p5), .val (.int p6), .val (.int (0 : Int32)), .val (.int (Int32.ofNat q224)), .val (.long c204), .second, .val (.long c206), .second, .val (.long c208), .second, .val (.long c210), .second, .val (.long c212), .second, .val (.long c214), .second, .val (.long c216), .second, .val (.long c218), .second, .val (.long c220), .second, .val (.long c222), .second, .val (.ref r228), .unset, .unset, .unset, .unset, .unset, .unset, .unset]) rfl ?_
    refine Run.iload K at_111 (pc' := 113) rfl rfl ?_
    refine Run.ifcT K at_113 (pT := 122) (pF := 116) (by decide) (by decide) rfl (show (0 : Int32) ≤ (0 : Int32) from by decide) ?_
    refine Run.iload K at_122 (pc' := 124) rfl rfl ?_
    refine Run.iconst K at_124 (pc' := 125) rfl (v := (1 : Int32)) rfl ?_
    refine Run.icmpT K at_125 (pT := 134) (pF := 128) (by decide) (by decide) rfl (show (0 : Int32) ≤ (1 : Int32) from by decide) ?_
    refine Run.iload K at_134 (pc' := 136) rfl rfl ?_
    refine Run.iconst K at_136 (pc' := 137) rfl (v := (2 : Int32)) rfl ?_
    refine Run.icmpT K at_137 (pT := 146) (pF := 140) (by decide) (by decide) rfl (show (0 : Int32) ≤ (2 : Int32) from by decide) ?_
    refine Run.iload K at_146 (pc' := 148) rfl rfl ?_
    refine Run.iconst K at_148 (pc' := 149) rfl (v := (3 : Int32)) rfl ?_
    refine Run.icmpT K at_149 (pT := 158) (pF := 152) (by decide) (by decide) rfl (show (0 : Int32) ≤ (3 : Int32) from by decide) ?_
    refine Run.aload K at_158 (pc' := 160) rfl rfl rfl ?_
    refine Run.iload K at_160 (pc' := 162) rfl rfl ?_
    refine Run.callS K at_162 (pc' := 165) rfl (hw _ (List.mem_of_getElem? (i := 9) rfl)) (hw _ (List.mem_of_getElem? (i := 10) rfl)) (hw _ (List.mem_of_getElem? (i := 11) rfl)) (hw _ (List.mem_of_getElem? (i := 12) rfl)) (by decide) (pc_0 l Z a0 n0 hw [] (r228) ((Int32.ofNat q224)) (q224) ([]) ([]) (rfl) (hp226)) (argsL := [(.ref r228), (.int (Int32.ofNat q224))]) (rest := []) rfl rfl pd_2 rfl (W := 0) rfl (by decide) (by decide) (cells' := 1) (slots' := 0) rfl rfl (by decide) (by decide) (Ret.k (S' := [(.long (0 : Int64))]) rfl ?_)
    refine Run.as (D' := ([], [(r228, .long, [])])) rfl ?_
    refine Run.lstore K at_165 (pc' := 167) rfl (L' := #[.val (.long p1), .second, .val (.long p2), .second, .val (.long p3), .second, .val (.long p4), .second, .val (.int p5), .val (.int p6), .val (.int (0 : Int32)), .val (.int (Int32.ofNat q224)), .val (.long c204), .second, .val (.long c206), .second, .val (.long c208), .second, .val (.long c210), .second, .val (.long c212), .second, .val (.long c214), .second, .val (.long c216), .second, .val (.long c218), .second, .val (.long c220), .second, .val (.long c222), .second, .val (.ref r228), .val (.long (0 : Int64)), .second, .unset, .unset, .unset, .unset, .unset]) rfl ?_
    refine Run.iload K at_167 (pc' := 169) rfl rfl ?_
    refine Run.ifcF K at_169 (pT := 185) (pF := 172) (by decide) (by decide) rfl (show ¬ ((0 : Int32) ≠ (0 : Int32)) from by decide) ?_
    refine Run.lload K at_172 (pc' := 174) rfl rfl ?_
    refine Run.lconst K at_174 (pc' := 175) rfl (v := (0 : Int64)) rfl ?_
    refine Run.lcmp K at_175 (pc' := 176) rfl ?_
    refine Run.ifLF K at_176 (pT := 183) (pF := 179) (by decide) (by decide) rfl (show ¬ ((0 : Int64) ≠ (0 : Int64)) from by decide) ?_
    refine Run.iconst K at_179 (pc' := 180) rfl (v := (1 : Int32)) rfl ?_
    refine Run.goto K at_180 (pc' := 184) (by decide) (by decide) ?_
    exact Run.retN K at_184 (w := (1 : Int32)) rfl (by decide) (by decide) (by decide) (by decide) rfl
  · rw [hq227]
    refine Run.iload K at_105 (pc' := 107) rfl rfl ?_
    refine Run.newA K at_107 (pc' := 109) rfl (ty := .long) rfl (hw _ (List.mem_of_getElem? (i := 8) rfl)) (by decide) (vs := [(.long (0 : Int64))]) (rfl) (cap := 1) (by decide) (by decide) (cells' := 1) (slots' := 1) rfl rfl (by decide) (by decide) rfl (fun r229 => ?_)
    refine Run.as (D' := ([], [(r229, .long, [(.long (0 : Int64))])])) rfl ?_
    refine Run.astore K at_109 (pc' := 111) rfl rfl (L' := #[.val (.long p1), .second, .val (.long p2), .second, .val (.long p3), .second, .val (.long p4), .second, .val (.int p5), .val (.int p6), .val (.int (1 : Int32)), .val (.int (Int32.ofNat q224)), .val (.long c204), .second, .val (.long c206), .second, .val (.long c208), .second, .val (.long c210), .second, .val (.long c212), .second, .val (.long c214), .second, .val (.long c216), .second, .val (.long c218), .second, .val (.long c220), .second, .val (.long c222), .second, .val (.ref r229), .unset, .unset, .unset, .unset, .unset, .unset, .unset]) rfl ?_
    refine Run.iload K at_111 (pc' := 113) rfl rfl ?_
    refine Run.ifcF K at_113 (pT := 122) (pF := 116) (by decide) (by decide) rfl (show ¬ ((1 : Int32) ≤ (0 : Int32)) from by decide) ?_
    refine Run.aload K at_116 (pc' := 118) rfl rfl rfl ?_
    refine Run.iconst K at_118 (pc' := 119) rfl (v := (0 : Int32)) rfl ?_
    refine Run.lload K at_119 (pc' := 121) rfl rfl ?_
    refine Run.lastore K at_121 (pc' := 122) rfl (i := 0) (q := 0) rfl (by decide) (by decide) (v := (.long (0 : Int64))) (rfl) (D' := ([], [(r229, .long, [(.long c212)])])) rfl ?_
    refine Run.iload K at_122 (pc' := 124) rfl rfl ?_
    refine Run.iconst K at_124 (pc' := 125) rfl (v := (1 : Int32)) rfl ?_
    refine Run.icmpT K at_125 (pT := 134) (pF := 128) (by decide) (by decide) rfl (show (1 : Int32) ≤ (1 : Int32) from by decide) ?_
    refine Run.iload K at_134 (pc' := 136) rfl rfl ?_
    refine Run.iconst K at_136 (pc' := 137) rfl (v := (2 : Int32)) rfl ?_
    refine Run.icmpT K at_137 (pT := 146) (pF := 140) (by decide) (by decide) rfl (show (1 : Int32) ≤ (2 : Int32) from by decide) ?_
    refine Run.iload K at_146 (pc' := 148) rfl rfl ?_
    refine Run.iconst K at_148 (pc' := 149) rfl (v := (3 : Int32)) rfl ?_
    refine Run.icmpT K at_149 (pT := 158) (pF := 152) (by decide) (by decide) rfl (show (1 : Int32) ≤ (3 : Int32) from by decide) ?_
    refine Run.aload K at_158 (pc' := 160) rfl rfl rfl ?_
    refine Run.iload K at_160 (pc' := 162) rfl rfl ?_
    refine Run.callS K at_162 (pc' := 165) rfl (hw _ (List.mem_of_getElem? (i := 9) rfl)) (hw _ (List.mem_of_getElem? (i := 10) rfl)) (hw _ (List.mem_of_getElem? (i := 11) rfl)) (hw _ (List.mem_of_getElem? (i := 12) rfl)) (by decide) (pc_1 l Z a0 n0 hw [] (r229) ((Int32.ofNat q224)) (c212) (q224) ([]) ([]) (rfl) (hp226)) (argsL := [(.ref r229), (.int (Int32.ofNat q224))]) (rest := []) rfl rfl pd_2 rfl (W := 0) rfl (by decide) (by decide) (cells' := 1) (slots' := 1) rfl rfl (by decide) (by decide) ?_
    intro vq Dq hq
    obtain ⟨c230, hc231, rfl, rfl⟩ := hq
    refine Run.as2 (D' := ([], [(r229, .long, [(.long c212)])])) (S' := [(.long c212)]) rfl rfl ?_
    obtain ⟨hcc, hk⟩ := hc231
    obtain ⟨-, -, hr1, hr2⟩ := own_rank (N := 1) (by decide) (by decide) (by decide) hp226 hcc
    have hr := own_rk1 (k := 0) hcc hk hp226
    refine Run.lstore K at_165 (pc' := 167) rfl (L' := #[.val (.long p1), .second, .val (.long p2), .second, .val (.long p3), .second, .val (.long p4), .second, .val (.int p5), .val (.int p6), .val (.int (1 : Int32)), .val (.int (Int32.ofNat q224)), .val (.long c204), .second, .val (.long c206), .second, .val (.long c208), .second, .val (.long c210), .second, .val (.long c212), .second, .val (.long c214), .second, .val (.long c216), .second, .val (.long c218), .second, .val (.long c220), .second, .val (.long c222), .second, .val (.ref r229), .val (.long c212), .second, .unset, .unset, .unset, .unset, .unset]) rfl ?_
    refine Run.iload K at_167 (pc' := 169) rfl rfl ?_
    refine Run.ifcT K at_169 (pT := 185) (pF := 172) (by decide) (by decide) rfl (show (1 : Int32) ≠ (0 : Int32) from by decide) ?_
    refine Run.iload K at_185 (pc' := 187) rfl rfl ?_
    refine Run.i2l K at_187 (pc' := 188) rfl ?_
    refine Run.iload K at_188 (pc' := 190) rfl rfl ?_
    refine Run.i2lV K at_190 (pc' := 191) rfl (v := (1 : Int64)) (by decide) ?_
    refine Run.lmul K at_191 (pc' := 192) rfl ?_
    refine Run.lstore K at_192 (pc' := 194) rfl (L' := #[.val (.long p1), .second, .val (.long p2), .second, .val (.long p3), .second, .val (.long p4), .second, .val (.int p5), .val (.int p6), .val (.int (1 : Int32)), .val (.int (Int32.ofNat q224)), .val (.long c204), .second, .val (.long c206), .second, .val (.long c208), .second, .val (.long c210), .second, .val (.long c212), .second, .val (.long c214), .second, .val (.long c216), .second, .val (.long c218), .second, .val (.long c220), .second, .val (.long c222), .second, .val (.ref r229), .val (.long c212), .second, .val (.long (((Int32.ofNat q224).toInt64) * (1 : Int64))), .second, .unset, .unset, .unset]) rfl ?_
    refine Run.lload K at_194 (pc' := 196) rfl rfl ?_
    refine Run.lload K at_196 (pc' := 198) rfl rfl ?_
    refine Run.lcmp K at_198 (pc' := 199) rfl ?_
    refine Run.ifLT K at_199 (pT := 244) (pF := 202) (by decide) (by decide) rfl (show c212 = c212 from rfl) ?_
    refine Run.iconst K at_244 (pc' := 245) rfl (v := (1 : Int32)) rfl ?_
    refine Run.goto K at_245 (pc' := 249) (by decide) (by decide) ?_
    refine Run.istore K at_249 (pc' := 251) rfl (L' := #[.val (.long p1), .second, .val (.long p2), .second, .val (.long p3), .second, .val (.long p4), .second, .val (.int p5), .val (.int p6), .val (.int (1 : Int32)), .val (.int (Int32.ofNat q224)), .val (.long c204), .second, .val (.long c206), .second, .val (.long c208), .second, .val (.long c210), .second, .val (.long c212), .second, .val (.long c214), .second, .val (.long c216), .second, .val (.long c218), .second, .val (.long c220), .second, .val (.long c222), .second, .val (.ref r229), .val (.long c212), .second, .val (.long (((Int32.ofNat q224).toInt64) * (1 : Int64))), .second, .val (.int (1 : Int32)), .unset, .unset]) rfl ?_
    refine Run.ldcJ K at_251 (pc' := 254) rfl (v := (100 : Int64)) (hw _ (List.mem_of_getElem? (i := 16) rfl)) ?_
    refine Run.lload K at_254 (pc' := 256) rfl rfl ?_
    refine Run.iload K at_256 (pc' := 258) rfl rfl ?_
    refine Run.lload K at_258 (pc' := 260) rfl rfl ?_
    refine Run.lload K at_260 (pc' := 262) rfl rfl ?_
    refine Run.lload K at_262 (pc' := 264) rfl rfl ?_
    refine Run.lload K at_264 (pc' := 266) rfl rfl ?_
    refine Run.callS K at_266 (pc' := 269) rfl (hw _ (List.mem_of_getElem? (i := 17) rfl)) (hw _ (List.mem_of_getElem? (i := 18) rfl)) (hw _ (List.mem_of_getElem? (i := 19) rfl)) (hw _ (List.mem_of_getElem? (i := 20) rfl)) (by decide) (cnt_1 l Z a0 n0 hw [] (c212) ((1 : Int32)) (c212) (c220) (c222) (c218) ([]) ([(r229, .long, [(.long c212)])]) (rfl)) (argsL := [(.long c212), (.int (1 : Int32)), (.long c212), (.long c220), (.long c222), (.long c218)]) (rest := [(.long (100 : Int64))]) rfl rfl pd_1 rfl (W := 2) rfl (by decide) (by decide) (cells' := 1) (slots' := 1) rfl rfl (by decide) (by decide) ?_
    intro vq Dq hq
    obtain ⟨c232, hc233, rfl, rfl⟩ := hq
    refine Run.as2 (D' := ([], [(r229, .long, [(.long c212)])])) (S' := [(.long c232), (.long (100 : Int64))]) rfl rfl ?_
    refine Run.lmul K at_269 (pc' := 270) rfl ?_
    refine Run.lload K at_270 (pc' := 272) rfl rfl ?_
    refine Run.lcmp K at_272 (pc' := 273) rfl ?_
    refine Run.ifLF K at_273 (pT := 280) (pF := 276) (by decide) (by decide) rfl (show ¬ (((100 : Int64) * c232) < (((Int32.ofNat q224).toInt64) * (1 : Int64))) from own_en_1_0 hs hr hp226 hc233) ?_
    refine Run.iconst K at_276 (pc' := 277) rfl (v := (1 : Int32)) rfl ?_
    refine Run.goto K at_277 (pc' := 281) (by decide) (by decide) ?_
    refine Run.istore K at_281 (pc' := 283) rfl (L' := #[.val (.long p1), .second, .val (.long p2), .second, .val (.long p3), .second, .val (.long p4), .second, .val (.int p5), .val (.int p6), .val (.int (1 : Int32)), .val (.int (Int32.ofNat q224)), .val (.long c204), .second, .val (.long c206), .second, .val (.long c208), .second, .val (.long c210), .second, .val (.long c212), .second, .val (.long c214), .second, .val (.long c216), .second, .val (.long c218), .second, .val (.long c220), .second, .val (.long c222), .second, .val (.ref r229), .val (.long c212), .second, .val (.long (((Int32.ofNat q224).toInt64) * (1 : Int64))), .second, .val (.int (1 : Int32)), .val (.int (1 : Int32)), .unset]) rfl ?_
    refine Run.lload K at_283 (pc' := 285) rfl rfl ?_
    refine Run.lload K at_285 (pc' := 287) rfl rfl ?_
    refine Run.iload K at_287 (pc' := 289) rfl rfl ?_
    refine Run.lload K at_289 (pc' := 291) rfl rfl ?_
    refine Run.lload K at_291 (pc' := 293) rfl rfl ?_
    refine Run.lload K at_293 (pc' := 295) rfl rfl ?_
    refine Run.lload K at_295 (pc' := 297) rfl rfl ?_
    refine Run.lload K at_297 (pc' := 299) rfl rfl ?_
    refine Run.callS K at_299 (pc' := 302) rfl (hw _ (List.mem_of_getElem? (i := 21) rfl)) (hw _ (List.mem_of_getElem? (i := 22) rfl)) (hw _ (List.mem_of_getElem? (i := 19) rfl)) (hw _ (List.mem_of_getElem? (i := 23) rfl)) (by decide) (fi_1 l Z a0 n0 hw [] (c212) (c212) ((1 : Int32)) ((((Int32.ofNat q224).toInt64) * (1 : Int64))) (c212) (c220) (c222) (c218) ([]) ([(r229, .long, [(.long c212)])]) (rfl)) (argsL := [(.long c212), (.long c212), (.int (1 : Int32)), (.long (((Int32.ofNat q224).toInt64) * (1 : Int64))), (.long c212), (.long c220), (.long c222), (.long c218)]) (rest := []) rfl rfl pd_3 rfl (W := 0) rfl (by decide) (by decide) (cells' := 1) (slots' := 1) rfl rfl (by decide) (by decide) ?_
    intro vq Dq hq
    obtain ⟨c234, hc235, rfl, rfl⟩ := hq
    refine Run.as2 (D' := ([], [(r229, .long, [(.long c212)])])) (S' := [(.int c234)]) rfl rfl ?_
    refine Run.ifcF K at_302 (pT := 393) (pF := 305) (by decide) (by decide) rfl (show ¬ (c234 = (0 : Int32)) from own_fi_1_0_0 hs hr hp226 hc235) ?_
    refine Run.iload K at_305 (pc' := 307) rfl rfl ?_
    refine Run.iconst K at_307 (pc' := 308) rfl (v := (1 : Int32)) rfl ?_
    refine Run.icmpT K at_308 (pT := 333) (pF := 311) (by decide) (by decide) rfl (show (1 : Int32) ≤ (1 : Int32) from by decide) ?_
    refine Run.iload K at_333 (pc' := 335) rfl rfl ?_
    refine Run.iconst K at_335 (pc' := 336) rfl (v := (2 : Int32)) rfl ?_
    refine Run.icmpT K at_336 (pT := 361) (pF := 339) (by decide) (by decide) rfl (show (1 : Int32) ≤ (2 : Int32) from by decide) ?_
    refine Run.iload K at_361 (pc' := 363) rfl rfl ?_
    refine Run.iconst K at_363 (pc' := 364) rfl (v := (3 : Int32)) rfl ?_
    refine Run.icmpT K at_364 (pT := 389) (pF := 367) (by decide) (by decide) rfl (show (1 : Int32) ≤ (3 : Int32) from by decide) ?_
    refine Run.iconst K at_389 (pc' := 390) rfl (v := (1 : Int32)) rfl ?_
    refine Run.goto K at_390 (pc' := 394) (by decide) (by decide) ?_
    refine Run.istore K at_394 (pc' := 396) rfl (L' := #[.val (.long p1), .second, .val (.long p2), .second, .val (.long p3), .second, .val (.long p4), .second, .val (.int p5), .val (.int p6), .val (.int (1 : Int32)), .val (.int (Int32.ofNat q224)), .val (.long c204), .second, .val (.long c206), .second, .val (.long c208), .second, .val (.long c210), .second, .val (.long c212), .second, .val (.long c214), .second, .val (.long c216), .second, .val (.long c218), .second, .val (.long c220), .second, .val (.long c222), .second, .val (.ref r229), .val (.long c212), .second, .val (.long (((Int32.ofNat q224).toInt64) * (1 : Int64))), .second, .val (.int (1 : Int32)), .val (.int (1 : Int32)), .val (.int (1 : Int32))]) rfl ?_
    refine Run.iload K at_396 (pc' := 398) rfl rfl ?_
    refine Run.ifcF K at_398 (pT := 415) (pF := 401) (by decide) (by decide) rfl (show ¬ ((1 : Int32) = (0 : Int32)) from by decide) ?_
    refine Run.iload K at_401 (pc' := 403) rfl rfl ?_
    refine Run.ifcF K at_403 (pT := 415) (pF := 406) (by decide) (by decide) rfl (show ¬ ((1 : Int32) = (0 : Int32)) from by decide) ?_
    refine Run.iload K at_406 (pc' := 408) rfl rfl ?_
    refine Run.ifcF K at_408 (pT := 415) (pF := 411) (by decide) (by decide) rfl (show ¬ ((1 : Int32) = (0 : Int32)) from by decide) ?_
    refine Run.iconst K at_411 (pc' := 412) rfl (v := (1 : Int32)) rfl ?_
    refine Run.goto K at_412 (pc' := 416) (by decide) (by decide) ?_
    exact Run.retN K at_416 (w := (1 : Int32)) rfl (by decide) (by decide) (by decide) (by decide) rfl
  · rw [hq227]
    refine Run.iload K at_105 (pc' := 107) rfl rfl ?_
    refine Run.newA K at_107 (pc' := 109) rfl (ty := .long) rfl (hw _ (List.mem_of_getElem? (i := 8) rfl)) (by decide) (vs := [(.long (0 : Int64)), (.long (0 : Int64))]) (rfl) (cap := 2) (by decide) (by decide) (cells' := 1) (slots' := 2) rfl rfl (by decide) (by decide) rfl (fun r236 => ?_)
    refine Run.as (D' := ([], [(r236, .long, [(.long (0 : Int64)), (.long (0 : Int64))])])) rfl ?_
    refine Run.astore K at_109 (pc' := 111) rfl rfl (L' := #[.val (.long p1), .second, .val (.long p2), .second, .val (.long p3), .second, .val (.long p4), .second, .val (.int p5), .val (.int p6), .val (.int (2 : Int32)), .val (.int (Int32.ofNat q224)), .val (.long c204), .second, .val (.long c206), .second, .val (.long c208), .second, .val (.long c210), .second, .val (.long c212), .second, .val (.long c214), .second, .val (.long c216), .second, .val (.long c218), .second, .val (.long c220), .second, .val (.long c222), .second, .val (.ref r236), .unset, .unset, .unset, .unset, .unset, .unset, .unset]) rfl ?_
    refine Run.iload K at_111 (pc' := 113) rfl rfl ?_
    refine Run.ifcF K at_113 (pT := 122) (pF := 116) (by decide) (by decide) rfl (show ¬ ((2 : Int32) ≤ (0 : Int32)) from by decide) ?_
    refine Run.aload K at_116 (pc' := 118) rfl rfl rfl ?_
    refine Run.iconst K at_118 (pc' := 119) rfl (v := (0 : Int32)) rfl ?_
    refine Run.lload K at_119 (pc' := 121) rfl rfl ?_
    refine Run.lastore K at_121 (pc' := 122) rfl (i := 0) (q := 0) rfl (by decide) (by decide) (v := (.long (0 : Int64))) (rfl) (D' := ([], [(r236, .long, [(.long c212), (.long (0 : Int64))])])) rfl ?_
    refine Run.iload K at_122 (pc' := 124) rfl rfl ?_
    refine Run.iconst K at_124 (pc' := 125) rfl (v := (1 : Int32)) rfl ?_
    refine Run.icmpF K at_125 (pT := 134) (pF := 128) (by decide) (by decide) rfl (show ¬ ((2 : Int32) ≤ (1 : Int32)) from by decide) ?_
    refine Run.aload K at_128 (pc' := 130) rfl rfl rfl ?_
    refine Run.iconst K at_130 (pc' := 131) rfl (v := (1 : Int32)) rfl ?_
    refine Run.lload K at_131 (pc' := 133) rfl rfl ?_
    refine Run.lastore K at_133 (pc' := 134) rfl (i := 0) (q := 1) rfl (by decide) (by decide) (v := (.long (0 : Int64))) (rfl) (D' := ([], [(r236, .long, [(.long c212), (.long c220)])])) rfl ?_
    refine Run.iload K at_134 (pc' := 136) rfl rfl ?_
    refine Run.iconst K at_136 (pc' := 137) rfl (v := (2 : Int32)) rfl ?_
    refine Run.icmpT K at_137 (pT := 146) (pF := 140) (by decide) (by decide) rfl (show (2 : Int32) ≤ (2 : Int32) from by decide) ?_
    refine Run.iload K at_146 (pc' := 148) rfl rfl ?_
    refine Run.iconst K at_148 (pc' := 149) rfl (v := (3 : Int32)) rfl ?_
    refine Run.icmpT K at_149 (pT := 158) (pF := 152) (by decide) (by decide) rfl (show (2 : Int32) ≤ (3 : Int32) from by decide) ?_
    refine Run.aload K at_158 (pc' := 160) rfl rfl rfl ?_
    refine Run.iload K at_160 (pc' := 162) rfl rfl ?_
    refine Run.callS K at_162 (pc' := 165) rfl (hw _ (List.mem_of_getElem? (i := 9) rfl)) (hw _ (List.mem_of_getElem? (i := 10) rfl)) (hw _ (List.mem_of_getElem? (i := 11) rfl)) (hw _ (List.mem_of_getElem? (i := 12) rfl)) (by decide) (pc_2 l Z a0 n0 hw [] (r236) ((Int32.ofNat q224)) (c212) (c220) (q224) ([]) ([]) (rfl) (hp226)) (argsL := [(.ref r236), (.int (Int32.ofNat q224))]) (rest := []) rfl rfl pd_2 rfl (W := 0) rfl (by decide) (by decide) (cells' := 1) (slots' := 2) rfl rfl (by decide) (by decide) ?_
    intro vq Dq hq
    obtain ⟨c237, c238, hc239, rfl, rfl⟩ := hq
    refine Run.as2 (D' := ([], [(r236, .long, [(.long c212), (.long c220)])])) (S' := [(.long c238)]) rfl rfl ?_
    obtain ⟨hcc, hjj⟩ := hc239
    obtain ⟨-, -, hr1, hr2⟩ := own_rank (N := 2) (by decide) (by decide) (by decide) hp226 hcc
    rcases hjj with ⟨hk, rfl⟩ | ⟨hk, rfl⟩
    · skip
      have hr := own_rk2 (k := 0) hcc hk hp226
      refine Run.lstore K at_165 (pc' := 167) rfl (L' := #[.val (.long p1), .second, .val (.long p2), .second, .val (.long p3), .second, .val (.long p4), .second, .val (.int p5), .val (.int p6), .val (.int (2 : Int32)), .val (.int (Int32.ofNat q224)), .val (.long c204), .second, .val (.long c206), .second, .val (.long c208), .second, .val (.long c210), .second, .val (.long c238), .second, .val (.long c214), .second, .val (.long c216), .second, .val (.long c218), .second, .val (.long c220), .second, .val (.long c222), .second, .val (.ref r236), .val (.long c238), .second, .unset, .unset, .unset, .unset, .unset]) rfl ?_
      refine Run.iload K at_167 (pc' := 169) rfl rfl ?_
      refine Run.ifcT K at_169 (pT := 185) (pF := 172) (by decide) (by decide) rfl (show (2 : Int32) ≠ (0 : Int32) from by decide) ?_
      refine Run.iload K at_185 (pc' := 187) rfl rfl ?_
      refine Run.i2l K at_187 (pc' := 188) rfl ?_
      refine Run.iload K at_188 (pc' := 190) rfl rfl ?_
      refine Run.i2lV K at_190 (pc' := 191) rfl (v := (2 : Int64)) (by decide) ?_
      refine Run.lmul K at_191 (pc' := 192) rfl ?_
      refine Run.lstore K at_192 (pc' := 194) rfl (L' := #[.val (.long p1), .second, .val (.long p2), .second, .val (.long p3), .second, .val (.long p4), .second, .val (.int p5), .val (.int p6), .val (.int (2 : Int32)), .val (.int (Int32.ofNat q224)), .val (.long c204), .second, .val (.long c206), .second, .val (.long c208), .second, .val (.long c210), .second, .val (.long c238), .second, .val (.long c214), .second, .val (.long c216), .second, .val (.long c218), .second, .val (.long c220), .second, .val (.long c222), .second, .val (.ref r236), .val (.long c238), .second, .val (.long (((Int32.ofNat q224).toInt64) * (2 : Int64))), .second, .unset, .unset, .unset]) rfl ?_
      refine Run.lload K at_194 (pc' := 196) rfl rfl ?_
      refine Run.lload K at_196 (pc' := 198) rfl rfl ?_
      refine Run.lcmp K at_198 (pc' := 199) rfl ?_
      refine Run.ifLT K at_199 (pT := 244) (pF := 202) (by decide) (by decide) rfl (show c238 = c238 from rfl) ?_
      refine Run.iconst K at_244 (pc' := 245) rfl (v := (1 : Int32)) rfl ?_
      refine Run.goto K at_245 (pc' := 249) (by decide) (by decide) ?_
      refine Run.istore K at_249 (pc' := 251) rfl (L' := #[.val (.long p1), .second, .val (.long p2), .second, .val (.long p3), .second, .val (.long p4), .second, .val (.int p5), .val (.int p6), .val (.int (2 : Int32)), .val (.int (Int32.ofNat q224)), .val (.long c204), .second, .val (.long c206), .second, .val (.long c208), .second, .val (.long c210), .second, .val (.long c238), .second, .val (.long c214), .second, .val (.long c216), .second, .val (.long c218), .second, .val (.long c220), .second, .val (.long c222), .second, .val (.ref r236), .val (.long c238), .second, .val (.long (((Int32.ofNat q224).toInt64) * (2 : Int64))), .second, .val (.int (1 : Int32)), .unset, .unset]) rfl ?_
      refine Run.ldcJ K at_251 (pc' := 254) rfl (v := (100 : Int64)) (hw _ (List.mem_of_getElem? (i := 16) rfl)) ?_
      refine Run.lload K at_254 (pc' := 256) rfl rfl ?_
      refine Run.iload K at_256 (pc' := 258) rfl rfl ?_
      refine Run.lload K at_258 (pc' := 260) rfl rfl ?_
      refine Run.lload K at_260 (pc' := 262) rfl rfl ?_
      refine Run.lload K at_262 (pc' := 264) rfl rfl ?_
      refine Run.lload K at_264 (pc' := 266) rfl rfl ?_
      refine Run.callS K at_266 (pc' := 269) rfl (hw _ (List.mem_of_getElem? (i := 17) rfl)) (hw _ (List.mem_of_getElem? (i := 18) rfl)) (hw _ (List.mem_of_getElem? (i := 19) rfl)) (hw _ (List.mem_of_getElem? (i := 20) rfl)) (by decide) (cnt_2 l Z a0 n0 hw [] (c238) ((2 : Int32)) (c238) (c220) (c222) (c218) ([]) ([(r236, .long, [(.long c238), (.long c220)])]) (rfl)) (argsL := [(.long c238), (.int (2 : Int32)), (.long c238), (.long c220), (.long c222), (.long c218)]) (rest := [(.long (100 : Int64))]) rfl rfl pd_1 rfl (W := 2) rfl (by decide) (by decide) (cells' := 1) (slots' := 2) rfl rfl (by decide) (by decide) ?_
      intro vq Dq hq
      obtain ⟨c240, hc241, rfl, rfl⟩ := hq
      refine Run.as2 (D' := ([], [(r236, .long, [(.long c238), (.long c220)])])) (S' := [(.long c240), (.long (100 : Int64))]) rfl rfl ?_
      refine Run.lmul K at_269 (pc' := 270) rfl ?_
      refine Run.lload K at_270 (pc' := 272) rfl rfl ?_
      refine Run.lcmp K at_272 (pc' := 273) rfl ?_
      refine Run.ifLF K at_273 (pT := 280) (pF := 276) (by decide) (by decide) rfl (show ¬ (((100 : Int64) * c240) < (((Int32.ofNat q224).toInt64) * (2 : Int64))) from own_en_2_0 hs hr hp226 hc241) ?_
      refine Run.iconst K at_276 (pc' := 277) rfl (v := (1 : Int32)) rfl ?_
      refine Run.goto K at_277 (pc' := 281) (by decide) (by decide) ?_
      refine Run.istore K at_281 (pc' := 283) rfl (L' := #[.val (.long p1), .second, .val (.long p2), .second, .val (.long p3), .second, .val (.long p4), .second, .val (.int p5), .val (.int p6), .val (.int (2 : Int32)), .val (.int (Int32.ofNat q224)), .val (.long c204), .second, .val (.long c206), .second, .val (.long c208), .second, .val (.long c210), .second, .val (.long c238), .second, .val (.long c214), .second, .val (.long c216), .second, .val (.long c218), .second, .val (.long c220), .second, .val (.long c222), .second, .val (.ref r236), .val (.long c238), .second, .val (.long (((Int32.ofNat q224).toInt64) * (2 : Int64))), .second, .val (.int (1 : Int32)), .val (.int (1 : Int32)), .unset]) rfl ?_
      refine Run.lload K at_283 (pc' := 285) rfl rfl ?_
      refine Run.lload K at_285 (pc' := 287) rfl rfl ?_
      refine Run.iload K at_287 (pc' := 289) rfl rfl ?_
      refine Run.lload K at_289 (pc' := 291) rfl rfl ?_
      refine Run.lload K at_291 (pc' := 293) rfl rfl ?_
      refine Run.lload K at_293 (pc' := 295) rfl rfl ?_
      refine Run.lload K at_295 (pc' := 297) rfl rfl ?_
      refine Run.lload K at_297 (pc' := 299) rfl rfl ?_
      refine Run.callS K at_299 (pc' := 302) rfl (hw _ (List.mem_of_getElem? (i := 21) rfl)) (hw _ (List.mem_of_getElem? (i := 22) rfl)) (hw _ (List.mem_of_getElem? (i := 19) rfl)) (hw _ (List.mem_of_getElem? (i := 23) rfl)) (by decide) (fi_2 l Z a0 n0 hw [] (c238) (c238) ((2 : Int32)) ((((Int32.ofNat q224).toInt64) * (2 : Int64))) (c238) (c220) (c222) (c218) ([]) ([(r236, .long, [(.long c238), (.long c220)])]) (rfl)) (argsL := [(.long c238), (.long c238), (.int (2 : Int32)), (.long (((Int32.ofNat q224).toInt64) * (2 : Int64))), (.long c238), (.long c220), (.long c222), (.long c218)]) (rest := []) rfl rfl pd_3 rfl (W := 0) rfl (by decide) (by decide) (cells' := 1) (slots' := 2) rfl rfl (by decide) (by decide) ?_
      intro vq Dq hq
      obtain ⟨c242, hc243, rfl, rfl⟩ := hq
      refine Run.as2 (D' := ([], [(r236, .long, [(.long c238), (.long c220)])])) (S' := [(.int c242)]) rfl rfl ?_
      refine Run.ifcF K at_302 (pT := 393) (pF := 305) (by decide) (by decide) rfl (show ¬ (c242 = (0 : Int32)) from own_fi_2_0_0 hs hr hp226 hc243) ?_
      refine Run.iload K at_305 (pc' := 307) rfl rfl ?_
      refine Run.iconst K at_307 (pc' := 308) rfl (v := (1 : Int32)) rfl ?_
      refine Run.icmpF K at_308 (pT := 333) (pF := 311) (by decide) (by decide) rfl (show ¬ ((2 : Int32) ≤ (1 : Int32)) from by decide) ?_
      refine Run.lload K at_311 (pc' := 313) rfl rfl ?_
      refine Run.lload K at_313 (pc' := 315) rfl rfl ?_
      refine Run.iload K at_315 (pc' := 317) rfl rfl ?_
      refine Run.lload K at_317 (pc' := 319) rfl rfl ?_
      refine Run.lload K at_319 (pc' := 321) rfl rfl ?_
      refine Run.lload K at_321 (pc' := 323) rfl rfl ?_
      refine Run.lload K at_323 (pc' := 325) rfl rfl ?_
      refine Run.lload K at_325 (pc' := 327) rfl rfl ?_
      refine Run.callS K at_327 (pc' := 330) rfl (hw _ (List.mem_of_getElem? (i := 21) rfl)) (hw _ (List.mem_of_getElem? (i := 22) rfl)) (hw _ (List.mem_of_getElem? (i := 19) rfl)) (hw _ (List.mem_of_getElem? (i := 23) rfl)) (by decide) (fi_2 l Z a0 n0 hw [] (c220) (c238) ((2 : Int32)) ((((Int32.ofNat q224).toInt64) * (2 : Int64))) (c238) (c220) (c222) (c218) ([]) ([(r236, .long, [(.long c238), (.long c220)])]) (rfl)) (argsL := [(.long c220), (.long c238), (.int (2 : Int32)), (.long (((Int32.ofNat q224).toInt64) * (2 : Int64))), (.long c238), (.long c220), (.long c222), (.long c218)]) (rest := []) rfl rfl pd_3 rfl (W := 0) rfl (by decide) (by decide) (cells' := 1) (slots' := 2) rfl rfl (by decide) (by decide) ?_
      intro vq Dq hq
      obtain ⟨c244, hc245, rfl, rfl⟩ := hq
      refine Run.as2 (D' := ([], [(r236, .long, [(.long c238), (.long c220)])])) (S' := [(.int c244)]) rfl rfl ?_
      refine Run.ifcF K at_330 (pT := 393) (pF := 333) (by decide) (by decide) rfl (show ¬ (c244 = (0 : Int32)) from own_fi_2_0_1 hs hr hp226 hc245) ?_
      refine Run.iload K at_333 (pc' := 335) rfl rfl ?_
      refine Run.iconst K at_335 (pc' := 336) rfl (v := (2 : Int32)) rfl ?_
      refine Run.icmpT K at_336 (pT := 361) (pF := 339) (by decide) (by decide) rfl (show (2 : Int32) ≤ (2 : Int32) from by decide) ?_
      refine Run.iload K at_361 (pc' := 363) rfl rfl ?_
      refine Run.iconst K at_363 (pc' := 364) rfl (v := (3 : Int32)) rfl ?_
      refine Run.icmpT K at_364 (pT := 389) (pF := 367) (by decide) (by decide) rfl (show (2 : Int32) ≤ (3 : Int32) from by decide) ?_
      refine Run.iconst K at_389 (pc' := 390) rfl (v := (1 : Int32)) rfl ?_
      refine Run.goto K at_390 (pc' := 394) (by decide) (by decide) ?_
      refine Run.istore K at_394 (pc' := 396) rfl (L' := #[.val (.long p1), .second, .val (.long p2), .second, .val (.long p3), .second, .val (.long p4), .second, .val (.int p5), .val (.int p6), .val (.int (2 : Int32)), .val (.int (Int32.ofNat q224)), .val (.long c204), .second, .val (.long c206), .second, .val (.long c208), .second, .val (.long c210), .second, .val (.long c238), .second, .val (.long c214), .second, .val (.long c216), .second, .val (.long c218), .second, .val (.long c220), .second, .val (.long c222), .second, .val (.ref r236), .val (.long c238), .second, .val (.long (((Int32.ofNat q224).toInt64) * (2 : Int64))), .second, .val (.int (1 : Int32)), .val (.int (1 : Int32)), .val (.int (1 : Int32))]) rfl ?_
      refine Run.iload K at_396 (pc' := 398) rfl rfl ?_
      refine Run.ifcF K at_398 (pT := 415) (pF := 401) (by decide) (by decide) rfl (show ¬ ((1 : Int32) = (0 : Int32)) from by decide) ?_
      refine Run.iload K at_401 (pc' := 403) rfl rfl ?_
      refine Run.ifcF K at_403 (pT := 415) (pF := 406) (by decide) (by decide) rfl (show ¬ ((1 : Int32) = (0 : Int32)) from by decide) ?_
      refine Run.iload K at_406 (pc' := 408) rfl rfl ?_
      refine Run.ifcF K at_408 (pT := 415) (pF := 411) (by decide) (by decide) rfl (show ¬ ((1 : Int32) = (0 : Int32)) from by decide) ?_
      refine Run.iconst K at_411 (pc' := 412) rfl (v := (1 : Int32)) rfl ?_
      refine Run.goto K at_412 (pc' := 416) (by decide) (by decide) ?_
      exact Run.retN K at_416 (w := (1 : Int32)) rfl (by decide) (by decide) (by decide) (by decide) rfl
    · skip
      have hr := own_rk2 (k := 1) hcc hk hp226
      refine Run.lstore K at_165 (pc' := 167) rfl (L' := #[.val (.long p1), .second, .val (.long p2), .second, .val (.long p3), .second, .val (.long p4), .second, .val (.int p5), .val (.int p6), .val (.int (2 : Int32)), .val (.int (Int32.ofNat q224)), .val (.long c204), .second, .val (.long c206), .second, .val (.long c208), .second, .val (.long c210), .second, .val (.long c212), .second, .val (.long c214), .second, .val (.long c216), .second, .val (.long c218), .second, .val (.long c238), .second, .val (.long c222), .second, .val (.ref r236), .val (.long c238), .second, .unset, .unset, .unset, .unset, .unset]) rfl ?_
      refine Run.iload K at_167 (pc' := 169) rfl rfl ?_
      refine Run.ifcT K at_169 (pT := 185) (pF := 172) (by decide) (by decide) rfl (show (2 : Int32) ≠ (0 : Int32) from by decide) ?_
      refine Run.iload K at_185 (pc' := 187) rfl rfl ?_
      refine Run.i2l K at_187 (pc' := 188) rfl ?_
      refine Run.iload K at_188 (pc' := 190) rfl rfl ?_
      refine Run.i2lV K at_190 (pc' := 191) rfl (v := (2 : Int64)) (by decide) ?_
      refine Run.lmul K at_191 (pc' := 192) rfl ?_
      refine Run.lstore K at_192 (pc' := 194) rfl (L' := #[.val (.long p1), .second, .val (.long p2), .second, .val (.long p3), .second, .val (.long p4), .second, .val (.int p5), .val (.int p6), .val (.int (2 : Int32)), .val (.int (Int32.ofNat q224)), .val (.long c204), .second, .val (.long c206), .second, .val (.long c208), .second, .val (.long c210), .second, .val (.long c212), .second, .val (.long c214), .second, .val (.long c216), .second, .val (.long c218), .second, .val (.long c238), .second, .val (.long c222), .second, .val (.ref r236), .val (.long c238), .second, .val (.long (((Int32.ofNat q224).toInt64) * (2 : Int64))), .second, .unset, .unset, .unset]) rfl ?_
      refine Run.lload K at_194 (pc' := 196) rfl rfl ?_
      refine Run.lload K at_196 (pc' := 198) rfl rfl ?_
      refine Run.lcmp K at_198 (pc' := 199) rfl ?_
      refine Run.join0 (D' := ([], [(r236, .long, [(.long c212), (.long c238)])])) (cells' := 1) (slots' := 2) (pc' := 249) (L' := #[.val (.long p1), .second, .val (.long p2), .second, .val (.long p3), .second, .val (.long p4), .second, .val (.int p5), .val (.int p6), .val (.int (2 : Int32)), .val (.int (Int32.ofNat q224)), .val (.long c204), .second, .val (.long c206), .second, .val (.long c208), .second, .val (.long c210), .second, .val (.long c212), .second, .val (.long c214), .second, .val (.long c216), .second, .val (.long c218), .second, .val (.long c238), .second, .val (.long c222), .second, .val (.ref r236), .val (.long c238), .second, .val (.long (((Int32.ofNat q224).toInt64) * (2 : Int64))), .second, .unset, .unset, .unset]) (S' := [(.int (1 : Int32))]) ?_ (fun J199 => ?_)
      · skip
        refine Run.istore K at_249 (pc' := 251) rfl (L' := #[.val (.long p1), .second, .val (.long p2), .second, .val (.long p3), .second, .val (.long p4), .second, .val (.int p5), .val (.int p6), .val (.int (2 : Int32)), .val (.int (Int32.ofNat q224)), .val (.long c204), .second, .val (.long c206), .second, .val (.long c208), .second, .val (.long c210), .second, .val (.long c212), .second, .val (.long c214), .second, .val (.long c216), .second, .val (.long c218), .second, .val (.long c238), .second, .val (.long c222), .second, .val (.ref r236), .val (.long c238), .second, .val (.long (((Int32.ofNat q224).toInt64) * (2 : Int64))), .second, .val (.int (1 : Int32)), .unset, .unset]) rfl ?_
        refine Run.ldcJ K at_251 (pc' := 254) rfl (v := (100 : Int64)) (hw _ (List.mem_of_getElem? (i := 16) rfl)) ?_
        refine Run.lload K at_254 (pc' := 256) rfl rfl ?_
        refine Run.iload K at_256 (pc' := 258) rfl rfl ?_
        refine Run.lload K at_258 (pc' := 260) rfl rfl ?_
        refine Run.lload K at_260 (pc' := 262) rfl rfl ?_
        refine Run.lload K at_262 (pc' := 264) rfl rfl ?_
        refine Run.lload K at_264 (pc' := 266) rfl rfl ?_
        refine Run.callS K at_266 (pc' := 269) rfl (hw _ (List.mem_of_getElem? (i := 17) rfl)) (hw _ (List.mem_of_getElem? (i := 18) rfl)) (hw _ (List.mem_of_getElem? (i := 19) rfl)) (hw _ (List.mem_of_getElem? (i := 20) rfl)) (by decide) (cnt_2 l Z a0 n0 hw [] (c238) ((2 : Int32)) (c212) (c238) (c222) (c218) ([]) ([(r236, .long, [(.long c212), (.long c238)])]) (rfl)) (argsL := [(.long c238), (.int (2 : Int32)), (.long c212), (.long c238), (.long c222), (.long c218)]) (rest := [(.long (100 : Int64))]) rfl rfl pd_1 rfl (W := 2) rfl (by decide) (by decide) (cells' := 1) (slots' := 2) rfl rfl (by decide) (by decide) ?_
        intro vq Dq hq
        obtain ⟨c248, hc249, rfl, rfl⟩ := hq
        refine Run.as2 (D' := ([], [(r236, .long, [(.long c212), (.long c238)])])) (S' := [(.long c248), (.long (100 : Int64))]) rfl rfl ?_
        refine Run.lmul K at_269 (pc' := 270) rfl ?_
        refine Run.lload K at_270 (pc' := 272) rfl rfl ?_
        refine Run.lcmp K at_272 (pc' := 273) rfl ?_
        refine Run.ifLF K at_273 (pT := 280) (pF := 276) (by decide) (by decide) rfl (show ¬ (((100 : Int64) * c248) < (((Int32.ofNat q224).toInt64) * (2 : Int64))) from own_en_2_1 hs hr hp226 hc249) ?_
        refine Run.iconst K at_276 (pc' := 277) rfl (v := (1 : Int32)) rfl ?_
        refine Run.goto K at_277 (pc' := 281) (by decide) (by decide) ?_
        refine Run.istore K at_281 (pc' := 283) rfl (L' := #[.val (.long p1), .second, .val (.long p2), .second, .val (.long p3), .second, .val (.long p4), .second, .val (.int p5), .val (.int p6), .val (.int (2 : Int32)), .val (.int (Int32.ofNat q224)), .val (.long c204), .second, .val (.long c206), .second, .val (.long c208), .second, .val (.long c210), .second, .val (.long c212), .second, .val (.long c214), .second, .val (.long c216), .second, .val (.long c218), .second, .val (.long c238), .second, .val (.long c222), .second, .val (.ref r236), .val (.long c238), .second, .val (.long (((Int32.ofNat q224).toInt64) * (2 : Int64))), .second, .val (.int (1 : Int32)), .val (.int (1 : Int32)), .unset]) rfl ?_
        refine Run.lload K at_283 (pc' := 285) rfl rfl ?_
        refine Run.lload K at_285 (pc' := 287) rfl rfl ?_
        refine Run.iload K at_287 (pc' := 289) rfl rfl ?_
        refine Run.lload K at_289 (pc' := 291) rfl rfl ?_
        refine Run.lload K at_291 (pc' := 293) rfl rfl ?_
        refine Run.lload K at_293 (pc' := 295) rfl rfl ?_
        refine Run.lload K at_295 (pc' := 297) rfl rfl ?_
        refine Run.lload K at_297 (pc' := 299) rfl rfl ?_
        refine Run.callS K at_299 (pc' := 302) rfl (hw _ (List.mem_of_getElem? (i := 21) rfl)) (hw _ (List.mem_of_getElem? (i := 22) rfl)) (hw _ (List.mem_of_getElem? (i := 19) rfl)) (hw _ (List.mem_of_getElem? (i := 23) rfl)) (by decide) (fi_2 l Z a0 n0 hw [] (c212) (c238) ((2 : Int32)) ((((Int32.ofNat q224).toInt64) * (2 : Int64))) (c212) (c238) (c222) (c218) ([]) ([(r236, .long, [(.long c212), (.long c238)])]) (rfl)) (argsL := [(.long c212), (.long c238), (.int (2 : Int32)), (.long (((Int32.ofNat q224).toInt64) * (2 : Int64))), (.long c212), (.long c238), (.long c222), (.long c218)]) (rest := []) rfl rfl pd_3 rfl (W := 0) rfl (by decide) (by decide) (cells' := 1) (slots' := 2) rfl rfl (by decide) (by decide) ?_
        intro vq Dq hq
        obtain ⟨c250, hc251, rfl, rfl⟩ := hq
        refine Run.as2 (D' := ([], [(r236, .long, [(.long c212), (.long c238)])])) (S' := [(.int c250)]) rfl rfl ?_
        refine Run.ifcF K at_302 (pT := 393) (pF := 305) (by decide) (by decide) rfl (show ¬ (c250 = (0 : Int32)) from own_fi_2_1_0 hs hr hp226 hc251) ?_
        refine Run.iload K at_305 (pc' := 307) rfl rfl ?_
        refine Run.iconst K at_307 (pc' := 308) rfl (v := (1 : Int32)) rfl ?_
        refine Run.icmpF K at_308 (pT := 333) (pF := 311) (by decide) (by decide) rfl (show ¬ ((2 : Int32) ≤ (1 : Int32)) from by decide) ?_
        refine Run.lload K at_311 (pc' := 313) rfl rfl ?_
        refine Run.lload K at_313 (pc' := 315) rfl rfl ?_
        refine Run.iload K at_315 (pc' := 317) rfl rfl ?_
        refine Run.lload K at_317 (pc' := 319) rfl rfl ?_
        refine Run.lload K at_319 (pc' := 321) rfl rfl ?_
        refine Run.lload K at_321 (pc' := 323) rfl rfl ?_
        refine Run.lload K at_323 (pc' := 325) rfl rfl ?_
        refine Run.lload K at_325 (pc' := 327) rfl rfl ?_
        refine Run.callS K at_327 (pc' := 330) rfl (hw _ (List.mem_of_getElem? (i := 21) rfl)) (hw _ (List.mem_of_getElem? (i := 22) rfl)) (hw _ (List.mem_of_getElem? (i := 19) rfl)) (hw _ (List.mem_of_getElem? (i := 23) rfl)) (by decide) (fi_2 l Z a0 n0 hw [] (c238) (c238) ((2 : Int32)) ((((Int32.ofNat q224).toInt64) * (2 : Int64))) (c212) (c238) (c222) (c218) ([]) ([(r236, .long, [(.long c212), (.long c238)])]) (rfl)) (argsL := [(.long c238), (.long c238), (.int (2 : Int32)), (.long (((Int32.ofNat q224).toInt64) * (2 : Int64))), (.long c212), (.long c238), (.long c222), (.long c218)]) (rest := []) rfl rfl pd_3 rfl (W := 0) rfl (by decide) (by decide) (cells' := 1) (slots' := 2) rfl rfl (by decide) (by decide) ?_
        intro vq Dq hq
        obtain ⟨c252, hc253, rfl, rfl⟩ := hq
        refine Run.as2 (D' := ([], [(r236, .long, [(.long c212), (.long c238)])])) (S' := [(.int c252)]) rfl rfl ?_
        refine Run.ifcF K at_330 (pT := 393) (pF := 333) (by decide) (by decide) rfl (show ¬ (c252 = (0 : Int32)) from own_fi_2_1_1 hs hr hp226 hc253) ?_
        refine Run.iload K at_333 (pc' := 335) rfl rfl ?_
        refine Run.iconst K at_335 (pc' := 336) rfl (v := (2 : Int32)) rfl ?_
        refine Run.icmpT K at_336 (pT := 361) (pF := 339) (by decide) (by decide) rfl (show (2 : Int32) ≤ (2 : Int32) from by decide) ?_
        refine Run.iload K at_361 (pc' := 363) rfl rfl ?_
        refine Run.iconst K at_363 (pc' := 364) rfl (v := (3 : Int32)) rfl ?_
        refine Run.icmpT K at_364 (pT := 389) (pF := 367) (by decide) (by decide) rfl (show (2 : Int32) ≤ (3 : Int32) from by decide) ?_
        refine Run.iconst K at_389 (pc' := 390) rfl (v := (1 : Int32)) rfl ?_
        refine Run.goto K at_390 (pc' := 394) (by decide) (by decide) ?_
        refine Run.istore K at_394 (pc' := 396) rfl (L' := #[.val (.long p1), .second, .val (.long p2), .second, .val (.long p3), .second, .val (.long p4), .second, .val (.int p5), .val (.int p6), .val (.int (2 : Int32)), .val (.int (Int32.ofNat q224)), .val (.long c204), .second, .val (.long c206), .second, .val (.long c208), .second, .val (.long c210), .second, .val (.long c212), .second, .val (.long c214), .second, .val (.long c216), .second, .val (.long c218), .second, .val (.long c238), .second, .val (.long c222), .second, .val (.ref r236), .val (.long c238), .second, .val (.long (((Int32.ofNat q224).toInt64) * (2 : Int64))), .second, .val (.int (1 : Int32)), .val (.int (1 : Int32)), .val (.int (1 : Int32))]) rfl ?_
        refine Run.iload K at_396 (pc' := 398) rfl rfl ?_
        refine Run.ifcF K at_398 (pT := 415) (pF := 401) (by decide) (by decide) rfl (show ¬ ((1 : Int32) = (0 : Int32)) from by decide) ?_
        refine Run.iload K at_401 (pc' := 403) rfl rfl ?_
        refine Run.ifcF K at_403 (pT := 415) (pF := 406) (by decide) (by decide) rfl (show ¬ ((1 : Int32) = (0 : Int32)) from by decide) ?_
        refine Run.iload K at_406 (pc' := 408) rfl rfl ?_
        refine Run.ifcF K at_408 (pT := 415) (pF := 411) (by decide) (by decide) rfl (show ¬ ((1 : Int32) = (0 : Int32)) from by decide) ?_
        refine Run.iconst K at_411 (pc' := 412) rfl (v := (1 : Int32)) rfl ?_
        refine Run.goto K at_412 (pc' := 416) (by decide) (by decide) ?_
        exact Run.retN K at_416 (w := (1 : Int32)) rfl (by decide) (by decide) (by decide) (by decide) rfl
      · skip
        refine Run.ifL K at_199 (pT := 244) (pF := 202) (by decide) (by decide) rfl (fun (h199_253 : c212 = c238) => ?_) (fun (h199_253 : ¬ (c212 = c238)) => ?_)
        · skip
          refine Run.iconst K at_244 (pc' := 245) rfl (v := (1 : Int32)) rfl ?_
          refine Run.goto K at_245 (pc' := 249) (by decide) (by decide) ?_
          exact J199
        · skip
          refine Run.iload K at_202 (pc' := 204) rfl rfl ?_
          refine Run.iconst K at_204 (pc' := 205) rfl (v := (1 : Int32)) rfl ?_
          refine Run.icmpF K at_205 (pT := 216) (pF := 208) (by decide) (by decide) rfl (show ¬ ((2 : Int32) ≤ (1 : Int32)) from by decide) ?_
          refine Run.lload K at_208 (pc' := 210) rfl rfl ?_
          refine Run.lload K at_210 (pc' := 212) rfl rfl ?_
          refine Run.lcmp K at_212 (pc' := 213) rfl ?_
          refine Run.ifLT K at_213 (pT := 244) (pF := 216) (by decide) (by decide) rfl (show c238 = c238 from rfl) ?_
          refine Run.iconst K at_244 (pc' := 245) rfl (v := (1 : Int32)) rfl ?_
          refine Run.goto K at_245 (pc' := 249) (by decide) (by decide) ?_
          exact J199
  · rw [hq227]
    refine Run.iload K at_105 (pc' := 107) rfl rfl ?_
    refine Run.newA K at_107 (pc' := 109) rfl (ty := .long) rfl (hw _ (List.mem_of_getElem? (i := 8) rfl)) (by decide) (vs := [(.long (0 : Int64)), (.long (0 : Int64)), (.long (0 : Int64))]) (rfl) (cap := 3) (by decide) (by decide) (cells' := 1) (slots' := 3) rfl rfl (by decide) (by decide) rfl (fun r255 => ?_)
    refine Run.as (D' := ([], [(r255, .long, [(.long (0 : Int64)), (.long (0 : Int64)), (.long (0 : Int64))])])) rfl ?_
    refine Run.astore K at_109 (pc' := 111) rfl rfl (L' := #[.val (.long p1), .second, .val (.long p2), .second, .val (.long p3), .second, .val (.long p4), .second, .val (.int p5), .val (.int p6), .val (.int (3 : Int32)), .val (.int (Int32.ofNat q224)), .val (.long c204), .second, .val (.long c206), .second, .val (.long c208), .second, .val (.long c210), .second, .val (.long c212), .second, .val (.long c214), .second, .val (.long c216), .second, .val (.long c218), .second, .val (.long c220), .second, .val (.long c222), .second, .val (.ref r255), .unset, .unset, .unset, .unset, .unset, .unset, .unset]) rfl ?_
    refine Run.iload K at_111 (pc' := 113) rfl rfl ?_
    refine Run.ifcF K at_113 (pT := 122) (pF := 116) (by decide) (by decide) rfl (show ¬ ((3 : Int32) ≤ (0 : Int32)) from by decide) ?_
    refine Run.aload K at_116 (pc' := 118) rfl rfl rfl ?_
    refine Run.iconst K at_118 (pc' := 119) rfl (v := (0 : Int32)) rfl ?_
    refine Run.lload K at_119 (pc' := 121) rfl rfl ?_
    refine Run.lastore K at_121 (pc' := 122) rfl (i := 0) (q := 0) rfl (by decide) (by decide) (v := (.long (0 : Int64))) (rfl) (D' := ([], [(r255, .long, [(.long c212), (.long (0 : Int64)), (.long (0 : Int64))])])) rfl ?_
    refine Run.iload K at_122 (pc' := 124) rfl rfl ?_
    refine Run.iconst K at_124 (pc' := 125) rfl (v := (1 : Int32)) rfl ?_
    refine Run.icmpF K at_125 (pT := 134) (pF := 128) (by decide) (by decide) rfl (show ¬ ((3 : Int32) ≤ (1 : Int32)) from by decide) ?_
    refine Run.aload K at_128 (pc' := 130) rfl rfl rfl ?_
    refine Run.iconst K at_130 (pc' := 131) rfl (v := (1 : Int32)) rfl ?_
    refine Run.lload K at_131 (pc' := 133) rfl rfl ?_
    refine Run.lastore K at_133 (pc' := 134) rfl (i := 0) (q := 1) rfl (by decide) (by decide) (v := (.long (0 : Int64))) (rfl) (D' := ([], [(r255, .long, [(.long c212), (.long c220), (.long (0 : Int64))])])) rfl ?_
    refine Run.iload K at_134 (pc' := 136) rfl rfl ?_
    refine Run.iconst K at_136 (pc' := 137) rfl (v := (2 : Int32)) rfl ?_
    refine Run.icmpF K at_137 (pT := 146) (pF := 140) (by decide) (by decide) rfl (show ¬ ((3 : Int32) ≤ (2 : Int32)) from by decide) ?_
    refine Run.aload K at_140 (pc' := 142) rfl rfl rfl ?_
    refine Run.iconst K at_142 (pc' := 143) rfl (v := (2 : Int32)) rfl ?_
    refine Run.lload K at_143 (pc' := 145) rfl rfl ?_
    refine Run.lastore K at_145 (pc' := 146) rfl (i := 0) (q := 2) rfl (by decide) (by decide) (v := (.long (0 : Int64))) (rfl) (D' := ([], [(r255, .long, [(.long c212), (.long c220), (.long c222)])])) rfl ?_
    refine Run.iload K at_146 (pc' := 148) rfl rfl ?_
    refine Run.iconst K at_148 (pc' := 149) rfl (v := (3 : Int32)) rfl ?_
    refine Run.icmpT K at_149 (pT := 158) (pF := 152) (by decide) (by decide) rfl (show (3 : Int32) ≤ (3 : Int32) from by decide) ?_
    refine Run.aload K at_158 (pc' := 160) rfl rfl rfl ?_
    refine Run.iload K at_160 (pc' := 162) rfl rfl ?_
    refine Run.callS K at_162 (pc' := 165) rfl (hw _ (List.mem_of_getElem? (i := 9) rfl)) (hw _ (List.mem_of_getElem? (i := 10) rfl)) (hw _ (List.mem_of_getElem? (i := 11) rfl)) (hw _ (List.mem_of_getElem? (i := 12) rfl)) (by decide) (pc_3 l Z a0 n0 hw [] (r255) ((Int32.ofNat q224)) (c212) (c220) (c222) (q224) ([]) ([]) (rfl) (hp226)) (argsL := [(.ref r255), (.int (Int32.ofNat q224))]) (rest := []) rfl rfl pd_2 rfl (W := 0) rfl (by decide) (by decide) (cells' := 1) (slots' := 3) rfl rfl (by decide) (by decide) ?_
    intro vq Dq hq
    obtain ⟨c256, c257, hc258, rfl, rfl⟩ := hq
    refine Run.as2 (D' := ([], [(r255, .long, [(.long c212), (.long c220), (.long c222)])])) (S' := [(.long c257)]) rfl rfl ?_
    obtain ⟨hcc, hjj⟩ := hc258
    obtain ⟨-, -, hr1, hr2⟩ := own_rank (N := 3) (by decide) (by decide) (by decide) hp226 hcc
    rcases hjj with ⟨hk, rfl⟩ | ⟨hk, rfl⟩ | ⟨hk, rfl⟩
    · skip
      have hr := own_rk3 (k := 0) hcc hk hp226
      refine Run.lstore K at_165 (pc' := 167) rfl (L' := #[.val (.long p1), .second, .val (.long p2), .second, .val (.long p3), .second, .val (.long p4), .second, .val (.int p5), .val (.int p6), .val (.int (3 : Int32)), .val (.int (Int32.ofNat q224)), .val (.long c204), .second, .val (.long c206), .second, .val (.long c208), .second, .val (.long c210), .second, .val (.long c257), .second, .val (.long c214), .second, .val (.long c216), .second, .val (.long c218), .second, .val (.long c220), .second, .val (.long c222), .second, .val (.ref r255), .val (.long c257), .second, .unset, .unset, .unset, .unset, .unset]) rfl ?_
      refine Run.iload K at_167 (pc' := 169) rfl rfl ?_
      refine Run.ifcT K at_169 (pT := 185) (pF := 172) (by decide) (by decide) rfl (show (3 : Int32) ≠ (0 : Int32) from by decide) ?_
      refine Run.iload K at_185 (pc' := 187) rfl rfl ?_
      refine Run.i2l K at_187 (pc' := 188) rfl ?_
      refine Run.iload K at_188 (pc' := 190) rfl rfl ?_
      refine Run.i2lV K at_190 (pc' := 191) rfl (v := (3 : Int64)) (by decide) ?_
      refine Run.lmul K at_191 (pc' := 192) rfl ?_
      refine Run.lstore K at_192 (pc' := 194) rfl (L' := #[.val (.long p1), .second, .val (.long p2), .second, .val (.long p3), .second, .val (.long p4), .second, .val (.int p5), .val (.int p6), .val (.int (3 : Int32)), .val (.int (Int32.ofNat q224)), .val (.long c204), .second, .val (.long c206), .second, .val (.long c208), .second, .val (.long c210), .second, .val (.long c257), .second, .val (.long c214), .second, .val (.long c216), .second, .val (.long c218), .second, .val (.long c220), .second, .val (.long c222), .second, .val (.ref r255), .val (.long c257), .second, .val (.long (((Int32.ofNat q224).toInt64) * (3 : Int64))), .second, .unset, .unset, .unset]) rfl ?_
      refine Run.lload K at_194 (pc' := 196) rfl rfl ?_
      refine Run.lload K at_196 (pc' := 198) rfl rfl ?_
      refine Run.lcmp K at_198 (pc' := 199) rfl ?_
      refine Run.ifLT K at_199 (pT := 244) (pF := 202) (by decide) (by decide) rfl (show c257 = c257 from rfl) ?_
      refine Run.iconst K at_244 (pc' := 245) rfl (v := (1 : Int32)) rfl ?_
      refine Run.goto K at_245 (pc' := 249) (by decide) (by decide) ?_
      refine Run.istore K at_249 (pc' := 251) rfl (L' := #[.val (.long p1), .second, .val (.long p2), .second, .val (.long p3), .second, .val (.long p4), .second, .val (.int p5), .val (.int p6), .val (.int (3 : Int32)), .val (.int (Int32.ofNat q224)), .val (.long c204), .second, .val (.long c206), .second, .val (.long c208), .second, .val (.long c210), .second, .val (.long c257), .second, .val (.long c214), .second, .val (.long c216), .second, .val (.long c218), .second, .val (.long c220), .second, .val (.long c222), .second, .val (.ref r255), .val (.long c257), .second, .val (.long (((Int32.ofNat q224).toInt64) * (3 : Int64))), .second, .val (.int (1 : Int32)), .unset, .unset]) rfl ?_
      refine Run.ldcJ K at_251 (pc' := 254) rfl (v := (100 : Int64)) (hw _ (List.mem_of_getElem? (i := 16) rfl)) ?_
      refine Run.lload K at_254 (pc' := 256) rfl rfl ?_
      refine Run.iload K at_256 (pc' := 258) rfl rfl ?_
      refine Run.lload K at_258 (pc' := 260) rfl rfl ?_
      refine Run.lload K at_260 (pc' := 262) rfl rfl ?_
      refine Run.lload K at_262 (pc' := 264) rfl rfl ?_
      refine Run.lload K at_264 (pc' := 266) rfl rfl ?_
      refine Run.callS K at_266 (pc' := 269) rfl (hw _ (List.mem_of_getElem? (i := 17) rfl)) (hw _ (List.mem_of_getElem? (i := 18) rfl)) (hw _ (List.mem_of_getElem? (i := 19) rfl)) (hw _ (List.mem_of_getElem? (i := 20) rfl)) (by decide) (cnt_3 l Z a0 n0 hw [] (c257) ((3 : Int32)) (c257) (c220) (c222) (c218) ([]) ([(r255, .long, [(.long c257), (.long c220), (.long c222)])]) (rfl)) (argsL := [(.long c257), (.int (3 : Int32)), (.long c257), (.long c220), (.long c222), (.long c218)]) (rest := [(.long (100 : Int64))]) rfl rfl pd_1 rfl (W := 2) rfl (by decide) (by decide) (cells' := 1) (slots' := 3) rfl rfl (by decide) (by decide) ?_
      intro vq Dq hq
      obtain ⟨c259, hc260, rfl, rfl⟩ := hq
      refine Run.as2 (D' := ([], [(r255, .long, [(.long c257), (.long c220), (.long c222)])])) (S' := [(.long c259), (.long (100 : Int64))]) rfl rfl ?_
      refine Run.lmul K at_269 (pc' := 270) rfl ?_
      refine Run.lload K at_270 (pc' := 272) rfl rfl ?_
      refine Run.lcmp K at_272 (pc' := 273) rfl ?_
      refine Run.ifLF K at_273 (pT := 280) (pF := 276) (by decide) (by decide) rfl (show ¬ (((100 : Int64) * c259) < (((Int32.ofNat q224).toInt64) * (3 : Int64))) from own_en_3_0 hs hr hp226 hc260) ?_
      refine Run.iconst K at_276 (pc' := 277) rfl (v := (1 : Int32)) rfl ?_
      refine Run.goto K at_277 (pc' := 281) (by decide) (by decide) ?_
      refine Run.istore K at_281 (pc' := 283) rfl (L' := #[.val (.long p1), .second, .val (.long p2), .second, .val (.long p3), .second, .val (.long p4), .second, .val (.int p5), .val (.int p6), .val (.int (3 : Int32)), .val (.int (Int32.ofNat q224)), .val (.long c204), .second, .val (.long c206), .second, .val (.long c208), .second, .val (.long c210), .second, .val (.long c257), .second, .val (.long c214), .second, .val (.long c216), .second, .val (.long c218), .second, .val (.long c220), .second, .val (.long c222), .second, .val (.ref r255), .val (.long c257), .second, .val (.long (((Int32.ofNat q224).toInt64) * (3 : Int64))), .second, .val (.int (1 : Int32)), .val (.int (1 : Int32)), .unset]) rfl ?_
      refine Run.lload K at_283 (pc' := 285) rfl rfl ?_
      refine Run.lload K at_285 (pc' := 287) rfl rfl ?_
      refine Run.iload K at_287 (pc' := 289) rfl rfl ?_
      refine Run.lload K at_289 (pc' := 291) rfl rfl ?_
      refine Run.lload K at_291 (pc' := 293) rfl rfl ?_
      refine Run.lload K at_293 (pc' := 295) rfl rfl ?_
      refine Run.lload K at_295 (pc' := 297) rfl rfl ?_
      refine Run.lload K at_297 (pc' := 299) rfl rfl ?_
      refine Run.callS K at_299 (pc' := 302) rfl (hw _ (List.mem_of_getElem? (i := 21) rfl)) (hw _ (List.mem_of_getElem? (i := 22) rfl)) (hw _ (List.mem_of_getElem? (i := 19) rfl)) (hw _ (List.mem_of_getElem? (i := 23) rfl)) (by decide) (fi_3 l Z a0 n0 hw [] (c257) (c257) ((3 : Int32)) ((((Int32.ofNat q224).toInt64) * (3 : Int64))) (c257) (c220) (c222) (c218) ([]) ([(r255, .long, [(.long c257), (.long c220), (.long c222)])]) (rfl)) (argsL := [(.long c257), (.long c257), (.int (3 : Int32)), (.long (((Int32.ofNat q224).toInt64) * (3 : Int64))), (.long c257), (.long c220), (.long c222), (.long c218)]) (rest := []) rfl rfl pd_3 rfl (W := 0) rfl (by decide) (by decide) (cells' := 1) (slots' := 3) rfl rfl (by decide) (by decide) ?_
      intro vq Dq hq
      obtain ⟨c261, hc262, rfl, rfl⟩ := hq
      refine Run.as2 (D' := ([], [(r255, .long, [(.long c257), (.long c220), (.long c222)])])) (S' := [(.int c261)]) rfl rfl ?_
      refine Run.ifcF K at_302 (pT := 393) (pF := 305) (by decide) (by decide) rfl (show ¬ (c261 = (0 : Int32)) from own_fi_3_0_0 hs hr hp226 hc262) ?_
      refine Run.iload K at_305 (pc' := 307) rfl rfl ?_
      refine Run.iconst K at_307 (pc' := 308) rfl (v := (1 : Int32)) rfl ?_
      refine Run.icmpF K at_308 (pT := 333) (pF := 311) (by decide) (by decide) rfl (show ¬ ((3 : Int32) ≤ (1 : Int32)) from by decide) ?_
      refine Run.lload K at_311 (pc' := 313) rfl rfl ?_
      refine Run.lload K at_313 (pc' := 315) rfl rfl ?_
      refine Run.iload K at_315 (pc' := 317) rfl rfl ?_
      refine Run.lload K at_317 (pc' := 319) rfl rfl ?_
      refine Run.lload K at_319 (pc' := 321) rfl rfl ?_
      refine Run.lload K at_321 (pc' := 323) rfl rfl ?_
      refine Run.lload K at_323 (pc' := 325) rfl rfl ?_
      refine Run.lload K at_325 (pc' := 327) rfl rfl ?_
      refine Run.callS K at_327 (pc' := 330) rfl (hw _ (List.mem_of_getElem? (i := 21) rfl)) (hw _ (List.mem_of_getElem? (i := 22) rfl)) (hw _ (List.mem_of_getElem? (i := 19) rfl)) (hw _ (List.mem_of_getElem? (i := 23) rfl)) (by decide) (fi_3 l Z a0 n0 hw [] (c220) (c257) ((3 : Int32)) ((((Int32.ofNat q224).toInt64) * (3 : Int64))) (c257) (c220) (c222) (c218) ([]) ([(r255, .long, [(.long c257), (.long c220), (.long c222)])]) (rfl)) (argsL := [(.long c220), (.long c257), (.int (3 : Int32)), (.long (((Int32.ofNat q224).toInt64) * (3 : Int64))), (.long c257), (.long c220), (.long c222), (.long c218)]) (rest := []) rfl rfl pd_3 rfl (W := 0) rfl (by decide) (by decide) (cells' := 1) (slots' := 3) rfl rfl (by decide) (by decide) ?_
      intro vq Dq hq
      obtain ⟨c263, hc264, rfl, rfl⟩ := hq
      refine Run.as2 (D' := ([], [(r255, .long, [(.long c257), (.long c220), (.long c222)])])) (S' := [(.int c263)]) rfl rfl ?_
      refine Run.ifcF K at_330 (pT := 393) (pF := 333) (by decide) (by decide) rfl (show ¬ (c263 = (0 : Int32)) from own_fi_3_0_1 hs hr hp226 hc264) ?_
      refine Run.iload K at_333 (pc' := 335) rfl rfl ?_
      refine Run.iconst K at_335 (pc' := 336) rfl (v := (2 : Int32)) rfl ?_
      refine Run.icmpF K at_336 (pT := 361) (pF := 339) (by decide) (by decide) rfl (show ¬ ((3 : Int32) ≤ (2 : Int32)) from by decide) ?_
      refine Run.lload K at_339 (pc' := 341) rfl rfl ?_
      refine Run.lload K at_341 (pc' := 343) rfl rfl ?_
      refine Run.iload K at_343 (pc' := 345) rfl rfl ?_
      refine Run.lload K at_345 (pc' := 347) rfl rfl ?_
      refine Run.lload K at_347 (pc' := 349) rfl rfl ?_
      refine Run.lload K at_349 (pc' := 351) rfl rfl ?_
      refine Run.lload K at_351 (pc' := 353) rfl rfl ?_
      refine Run.lload K at_353 (pc' := 355) rfl rfl ?_
      refine Run.callS K at_355 (pc' := 358) rfl (hw _ (List.mem_of_getElem? (i := 21) rfl)) (hw _ (List.mem_of_getElem? (i := 22) rfl)) (hw _ (List.mem_of_getElem? (i := 19) rfl)) (hw _ (List.mem_of_getElem? (i := 23) rfl)) (by decide) (fi_3 l Z a0 n0 hw [] (c222) (c257) ((3 : Int32)) ((((Int32.ofNat q224).toInt64) * (3 : Int64))) (c257) (c220) (c222) (c218) ([]) ([(r255, .long, [(.long c257), (.long c220), (.long c222)])]) (rfl)) (argsL := [(.long c222), (.long c257), (.int (3 : Int32)), (.long (((Int32.ofNat q224).toInt64) * (3 : Int64))), (.long c257), (.long c220), (.long c222), (.long c218)]) (rest := []) rfl rfl pd_3 rfl (W := 0) rfl (by decide) (by decide) (cells' := 1) (slots' := 3) rfl rfl (by decide) (by decide) ?_
      intro vq Dq hq
      obtain ⟨c265, hc266, rfl, rfl⟩ := hq
      refine Run.as2 (D' := ([], [(r255, .long, [(.long c257), (.long c220), (.long c222)])])) (S' := [(.int c265)]) rfl rfl ?_
      refine Run.ifcF K at_358 (pT := 393) (pF := 361) (by decide) (by decide) rfl (show ¬ (c265 = (0 : Int32)) from own_fi_3_0_2 hs hr hp226 hc266) ?_
      refine Run.iload K at_361 (pc' := 363) rfl rfl ?_
      refine Run.iconst K at_363 (pc' := 364) rfl (v := (3 : Int32)) rfl ?_
      refine Run.icmpT K at_364 (pT := 389) (pF := 367) (by decide) (by decide) rfl (show (3 : Int32) ≤ (3 : Int32) from by decide) ?_
      refine Run.iconst K at_389 (pc' := 390) rfl (v := (1 : Int32)) rfl ?_
      refine Run.goto K at_390 (pc' := 394) (by decide) (by decide) ?_
      refine Run.istore K at_394 (pc' := 396) rfl (L' := #[.val (.long p1), .second, .val (.long p2), .second, .val (.long p3), .second, .val (.long p4), .second, .val (.int p5), .val (.int p6), .val (.int (3 : Int32)), .val (.int (Int32.ofNat q224)), .val (.long c204), .second, .val (.long c206), .second, .val (.long c208), .second, .val (.long c210), .second, .val (.long c257), .second, .val (.long c214), .second, .val (.long c216), .second, .val (.long c218), .second, .val (.long c220), .second, .val (.long c222), .second, .val (.ref r255), .val (.long c257), .second, .val (.long (((Int32.ofNat q224).toInt64) * (3 : Int64))), .second, .val (.int (1 : Int32)), .val (.int (1 : Int32)), .val (.int (1 : Int32))]) rfl ?_
      refine Run.iload K at_396 (pc' := 398) rfl rfl ?_
      refine Run.ifcF K at_398 (pT := 415) (pF := 401) (by decide) (by decide) rfl (show ¬ ((1 : Int32) = (0 : Int32)) from by decide) ?_
      refine Run.iload K at_401 (pc' := 403) rfl rfl ?_
      refine Run.ifcF K at_403 (pT := 415) (pF := 406) (by decide) (by decide) rfl (show ¬ ((1 : Int32) = (0 : Int32)) from by decide) ?_
      refine Run.iload K at_406 (pc' := 408) rfl rfl ?_
      refine Run.ifcF K at_408 (pT := 415) (pF := 411) (by decide) (by decide) rfl (show ¬ ((1 : Int32) = (0 : Int32)) from by decide) ?_
      refine Run.iconst K at_411 (pc' := 412) rfl (v := (1 : Int32)) rfl ?_
      refine Run.goto K at_412 (pc' := 416) (by decide) (by decide) ?_
      exact Run.retN K at_416 (w := (1 : Int32)) rfl (by decide) (by decide) (by decide) (by decide) rfl
    · skip
      have hr := own_rk3 (k := 1) hcc hk hp226
      refine Run.lstore K at_165 (pc' := 167) rfl (L' := #[.val (.long p1), .second, .val (.long p2), .second, .val (.long p3), .second, .val (.long p4), .second, .val (.int p5), .val (.int p6), .val (.int (3 : Int32)), .val (.int (Int32.ofNat q224)), .val (.long c204), .second, .val (.long c206), .second, .val (.long c208), .second, .val (.long c210), .second, .val (.long c212), .second, .val (.long c214), .second, .val (.long c216), .second, .val (.long c218), .second, .val (.long c257), .second, .val (.long c222), .second, .val (.ref r255), .val (.long c257), .second, .unset, .unset, .unset, .unset, .unset]) rfl ?_
      refine Run.iload K at_167 (pc' := 169) rfl rfl ?_
      refine Run.ifcT K at_169 (pT := 185) (pF := 172) (by decide) (by decide) rfl (show (3 : Int32) ≠ (0 : Int32) from by decide) ?_
      refine Run.iload K at_185 (pc' := 187) rfl rfl ?_
      refine Run.i2l K at_187 (pc' := 188) rfl ?_
      refine Run.iload K at_188 (pc' := 190) rfl rfl ?_
      refine Run.i2lV K at_190 (pc' := 191) rfl (v := (3 : Int64)) (by decide) ?_
      refine Run.lmul K at_191 (pc' := 192) rfl ?_
      refine Run.lstore K at_192 (pc' := 194) rfl (L' := #[.val (.long p1), .second, .val (.long p2), .second, .val (.long p3), .second, .val (.long p4), .second, .val (.int p5), .val (.int p6), .val (.int (3 : Int32)), .val (.int (Int32.ofNat q224)), .val (.long c204), .second, .val (.long c206), .second, .val (.long c208), .second, .val (.long c210), .second, .val (.long c212), .second, .val (.long c214), .second, .val (.long c216), .second, .val (.long c218), .second, .val (.long c257), .second, .val (.long c222), .second, .val (.ref r255), .val (.long c257), .second, .val (.long (((Int32.ofNat q224).toInt64) * (3 : Int64))), .second, .unset, .unset, .unset]) rfl ?_
      refine Run.lload K at_194 (pc' := 196) rfl rfl ?_
      refine Run.lload K at_196 (pc' := 198) rfl rfl ?_
      refine Run.lcmp K at_198 (pc' := 199) rfl ?_
      refine Run.join0 (D' := ([], [(r255, .long, [(.long c212), (.long c257), (.long c222)])])) (cells' := 1) (slots' := 3) (pc' := 249) (L' := #[.val (.long p1), .second, .val (.long p2), .second, .val (.long p3), .second, .val (.long p4), .second, .val (.int p5), .val (.int p6), .val (.int (3 : Int32)), .val (.int (Int32.ofNat q224)), .val (.long c204), .second, .val (.long c206), .second, .val (.long c208), .second, .val (.long c210), .second, .val (.long c212), .second, .val (.long c214), .second, .val (.long c216), .second, .val (.long c218), .second, .val (.long c257), .second, .val (.long c222), .second, .val (.ref r255), .val (.long c257), .second, .val (.long (((Int32.ofNat q224).toInt64) * (3 : Int64))), .second, .unset, .unset, .unset]) (S' := [(.int (1 : Int32))]) ?_ (fun J199 => ?_)
      · skip
        refine Run.istore K at_249 (pc' := 251) rfl (L' := #[.val (.long p1), .second, .val (.long p2), .second, .val (.long p3), .second, .val (.long p4), .second, .val (.int p5), .val (.int p6), .val (.int (3 : Int32)), .val (.int (Int32.ofNat q224)), .val (.long c204), .second, .val (.long c206), .second, .val (.long c208), .second, .val (.long c210), .second, .val (.long c212), .second, .val (.long c214), .second, .val (.long c216), .second, .val (.long c218), .second, .val (.long c257), .second, .val (.long c222), .second, .val (.ref r255), .val (.long c257), .second, .val (.long (((Int32.ofNat q224).toInt64) * (3 : Int64))), .second, .val (.int (1 : Int32)), .unset, .unset]) rfl ?_
        refine Run.ldcJ K at_251 (pc' := 254) rfl (v := (100 : Int64)) (hw _ (List.mem_of_getElem? (i := 16) rfl)) ?_
        refine Run.lload K at_254 (pc' := 256) rfl rfl ?_
        refine Run.iload K at_256 (pc' := 258) rfl rfl ?_
        refine Run.lload K at_258 (pc' := 260) rfl rfl ?_
        refine Run.lload K at_260 (pc' := 262) rfl rfl ?_
        refine Run.lload K at_262 (pc' := 264) rfl rfl ?_
        refine Run.lload K at_264 (pc' := 266) rfl rfl ?_
        refine Run.callS K at_266 (pc' := 269) rfl (hw _ (List.mem_of_getElem? (i := 17) rfl)) (hw _ (List.mem_of_getElem? (i := 18) rfl)) (hw _ (List.mem_of_getElem? (i := 19) rfl)) (hw _ (List.mem_of_getElem? (i := 20) rfl)) (by decide) (cnt_3 l Z a0 n0 hw [] (c257) ((3 : Int32)) (c212) (c257) (c222) (c218) ([]) ([(r255, .long, [(.long c212), (.long c257), (.long c222)])]) (rfl)) (argsL := [(.long c257), (.int (3 : Int32)), (.long c212), (.long c257), (.long c222), (.long c218)]) (rest := [(.long (100 : Int64))]) rfl rfl pd_1 rfl (W := 2) rfl (by decide) (by decide) (cells' := 1) (slots' := 3) rfl rfl (by decide) (by decide) ?_
        intro vq Dq hq
        obtain ⟨c269, hc270, rfl, rfl⟩ := hq
        refine Run.as2 (D' := ([], [(r255, .long, [(.long c212), (.long c257), (.long c222)])])) (S' := [(.long c269), (.long (100 : Int64))]) rfl rfl ?_
        refine Run.lmul K at_269 (pc' := 270) rfl ?_
        refine Run.lload K at_270 (pc' := 272) rfl rfl ?_
        refine Run.lcmp K at_272 (pc' := 273) rfl ?_
        refine Run.ifLF K at_273 (pT := 280) (pF := 276) (by decide) (by decide) rfl (show ¬ (((100 : Int64) * c269) < (((Int32.ofNat q224).toInt64) * (3 : Int64))) from own_en_3_1 hs hr hp226 hc270) ?_
        refine Run.iconst K at_276 (pc' := 277) rfl (v := (1 : Int32)) rfl ?_
        refine Run.goto K at_277 (pc' := 281) (by decide) (by decide) ?_
        refine Run.istore K at_281 (pc' := 283) rfl (L' := #[.val (.long p1), .second, .val (.long p2), .second, .val (.long p3), .second, .val (.long p4), .second, .val (.int p5), .val (.int p6), .val (.int (3 : Int32)), .val (.int (Int32.ofNat q224)), .val (.long c204), .second, .val (.long c206), .second, .val (.long c208), .second, .val (.long c210), .second, .val (.long c212), .second, .val (.long c214), .second, .val (.long c216), .second, .val (.long c218), .second, .val (.long c257), .second, .val (.long c222), .second, .val (.ref r255), .val (.long c257), .second, .val (.long (((Int32.ofNat q224).toInt64) * (3 : Int64))), .second, .val (.int (1 : Int32)), .val (.int (1 : Int32)), .unset]) rfl ?_
        refine Run.lload K at_283 (pc' := 285) rfl rfl ?_
        refine Run.lload K at_285 (pc' := 287) rfl rfl ?_
        refine Run.iload K at_287 (pc' := 289) rfl rfl ?_
        refine Run.lload K at_289 (pc' := 291) rfl rfl ?_
        refine Run.lload K at_291 (pc' := 293) rfl rfl ?_
        refine Run.lload K at_293 (pc' := 295) rfl rfl ?_
        refine Run.lload K at_295 (pc' := 297) rfl rfl ?_
        refine Run.lload K at_297 (pc' := 299) rfl rfl ?_
        refine Run.callS K at_299 (pc' := 302) rfl (hw _ (List.mem_of_getElem? (i := 21) rfl)) (hw _ (List.mem_of_getElem? (i := 22) rfl)) (hw _ (List.mem_of_getElem? (i := 19) rfl)) (hw _ (List.mem_of_getElem? (i := 23) rfl)) (by decide) (fi_3 l Z a0 n0 hw [] (c212) (c257) ((3 : Int32)) ((((Int32.ofNat q224).toInt64) * (3 : Int64))) (c212) (c257) (c222) (c218) ([]) ([(r255, .long, [(.long c212), (.long c257), (.long c222)])]) (rfl)) (argsL := [(.long c212), (.long c257), (.int (3 : Int32)), (.long (((Int32.ofNat q224).toInt64) * (3 : Int64))), (.long c212), (.long c257), (.long c222), (.long c218)]) (rest := []) rfl rfl pd_3 rfl (W := 0) rfl (by decide) (by decide) (cells' := 1) (slots' := 3) rfl rfl (by decide) (by decide) ?_
        intro vq Dq hq
        obtain ⟨c271, hc272, rfl, rfl⟩ := hq
        refine Run.as2 (D' := ([], [(r255, .long, [(.long c212), (.long c257), (.long c222)])])) (S' := [(.int c271)]) rfl rfl ?_
        refine Run.ifcF K at_302 (pT := 393) (pF := 305) (by decide) (by decide) rfl (show ¬ (c271 = (0 : Int32)) from own_fi_3_1_0 hs hr hp226 hc272) ?_
        refine Run.iload K at_305 (pc' := 307) rfl rfl ?_
        refine Run.iconst K at_307 (pc' := 308) rfl (v := (1 : Int32)) rfl ?_
        refine Run.icmpF K at_308 (pT := 333) (pF := 311) (by decide) (by decide) rfl (show ¬ ((3 : Int32) ≤ (1 : Int32)) from by decide) ?_
        refine Run.lload K at_311 (pc' := 313) rfl rfl ?_
        refine Run.lload K at_313 (pc' := 315) rfl rfl ?_
        refine Run.iload K at_315 (pc' := 317) rfl rfl ?_
        refine Run.lload K at_317 (pc' := 319) rfl rfl ?_
        refine Run.lload K at_319 (pc' := 321) rfl rfl ?_
        refine Run.lload K at_321 (pc' := 323) rfl rfl ?_
        refine Run.lload K at_323 (pc' := 325) rfl rfl ?_
        refine Run.lload K at_325 (pc' := 327) rfl rfl ?_
        refine Run.callS K at_327 (pc' := 330) rfl (hw _ (List.mem_of_getElem? (i := 21) rfl)) (hw _ (List.mem_of_getElem? (i := 22) rfl)) (hw _ (List.mem_of_getElem? (i := 19) rfl)) (hw _ (List.mem_of_getElem? (i := 23) rfl)) (by decide) (fi_3 l Z a0 n0 hw [] (c257) (c257) ((3 : Int32)) ((((Int32.ofNat q224).toInt64) * (3 : Int64))) (c212) (c257) (c222) (c218) ([]) ([(r255, .long, [(.long c212), (.long c257), (.long c222)])]) (rfl)) (argsL := [(.long c257), (.long c257), (.int (3 : Int32)), (.long (((Int32.ofNat q224).toInt64) * (3 : Int64))), (.long c212), (.long c257), (.long c222), (.long c218)]) (rest := []) rfl rfl pd_3 rfl (W := 0) rfl (by decide) (by decide) (cells' := 1) (slots' := 3) rfl rfl (by decide) (by decide) ?_
        intro vq Dq hq
        obtain ⟨c273, hc274, rfl, rfl⟩ := hq
        refine Run.as2 (D' := ([], [(r255, .long, [(.long c212), (.long c257), (.long c222)])])) (S' := [(.int c273)]) rfl rfl ?_
        refine Run.ifcF K at_330 (pT := 393) (pF := 333) (by decide) (by decide) rfl (show ¬ (c273 = (0 : Int32)) from own_fi_3_1_1 hs hr hp226 hc274) ?_
        refine Run.iload K at_333 (pc' := 335) rfl rfl ?_
        refine Run.iconst K at_335 (pc' := 336) rfl (v := (2 : Int32)) rfl ?_
        refine Run.icmpF K at_336 (pT := 361) (pF := 339) (by decide) (by decide) rfl (show ¬ ((3 : Int32) ≤ (2 : Int32)) from by decide) ?_
        refine Run.lload K at_339 (pc' := 341) rfl rfl ?_
        refine Run.lload K at_341 (pc' := 343) rfl rfl ?_
        refine Run.iload K at_343 (pc' := 345) rfl rfl ?_
        refine Run.lload K at_345 (pc' := 347) rfl rfl ?_
        refine Run.lload K at_347 (pc' := 349) rfl rfl ?_
        refine Run.lload K at_349 (pc' := 351) rfl rfl ?_
        refine Run.lload K at_351 (pc' := 353) rfl rfl ?_
        refine Run.lload K at_353 (pc' := 355) rfl rfl ?_
        refine Run.callS K at_355 (pc' := 358) rfl (hw _ (List.mem_of_getElem? (i := 21) rfl)) (hw _ (List.mem_of_getElem? (i := 22) rfl)) (hw _ (List.mem_of_getElem? (i := 19) rfl)) (hw _ (List.mem_of_getElem? (i := 23) rfl)) (by decide) (fi_3 l Z a0 n0 hw [] (c222) (c257) ((3 : Int32)) ((((Int32.ofNat q224).toInt64) * (3 : Int64))) (c212) (c257) (c222) (c218) ([]) ([(r255, .long, [(.long c212), (.long c257), (.long c222)])]) (rfl)) (argsL := [(.long c222), (.long c257), (.int (3 : Int32)), (.long (((Int32.ofNat q224).toInt64) * (3 : Int64))), (.long c212), (.long c257), (.long c222), (.long c218)]) (rest := []) rfl rfl pd_3 rfl (W := 0) rfl (by decide) (by decide) (cells' := 1) (slots' := 3) rfl rfl (by decide) (by decide) ?_
        intro vq Dq hq
        obtain ⟨c275, hc276, rfl, rfl⟩ := hq
        refine Run.as2 (D' := ([], [(r255, .long, [(.long c212), (.long c257), (.long c222)])])) (S' := [(.int c275)]) rfl rfl ?_
        refine Run.ifcF K at_358 (pT := 393) (pF := 361) (by decide) (by decide) rfl (show ¬ (c275 = (0 : Int32)) from own_fi_3_1_2 hs hr hp226 hc276) ?_
        refine Run.iload K at_361 (pc' := 363) rfl rfl ?_
        refine Run.iconst K at_363 (pc' := 364) rfl (v := (3 : Int32)) rfl ?_
        refine Run.icmpT K at_364 (pT := 389) (pF := 367) (by decide) (by decide) rfl (show (3 : Int32) ≤ (3 : Int32) from by decide) ?_
        refine Run.iconst K at_389 (pc' := 390) rfl (v := (1 : Int32)) rfl ?_
        refine Run.goto K at_390 (pc' := 394) (by decide) (by decide) ?_
        refine Run.istore K at_394 (pc' := 396) rfl (L' := #[.val (.long p1), .second, .val (.long p2), .second, .val (.long p3), .second, .val (.long p4), .second, .val (.int p5), .val (.int p6), .val (.int (3 : Int32)), .val (.int (Int32.ofNat q224)), .val (.long c204), .second, .val (.long c206), .second, .val (.long c208), .second, .val (.long c210), .second, .val (.long c212), .second, .val (.long c214), .second, .val (.long c216), .second, .val (.long c218), .second, .val (.long c257), .second, .val (.long c222), .second, .val (.ref r255), .val (.long c257), .second, .val (.long (((Int32.ofNat q224).toInt64) * (3 : Int64))), .second, .val (.int (1 : Int32)), .val (.int (1 : Int32)), .val (.int (1 : Int32))]) rfl ?_
        refine Run.iload K at_396 (pc' := 398) rfl rfl ?_
        refine Run.ifcF K at_398 (pT := 415) (pF := 401) (by decide) (by decide) rfl (show ¬ ((1 : Int32) = (0 : Int32)) from by decide) ?_
        refine Run.iload K at_401 (pc' := 403) rfl rfl ?_
        refine Run.ifcF K at_403 (pT := 415) (pF := 406) (by decide) (by decide) rfl (show ¬ ((1 : Int32) = (0 : Int32)) from by decide) ?_
        refine Run.iload K at_406 (pc' := 408) rfl rfl ?_
        refine Run.ifcF K at_408 (pT := 415) (pF := 411) (by decide) (by decide) rfl (show ¬ ((1 : Int32) = (0 : Int32)) from by decide) ?_
        refine Run.iconst K at_411 (pc' := 412) rfl (v := (1 : Int32)) rfl ?_
        refine Run.goto K at_412 (pc' := 416) (by decide) (by decide) ?_
        exact Run.retN K at_416 (w := (1 : Int32)) rfl (by decide) (by decide) (by decide) (by decide) rfl
      · skip
        refine Run.ifL K at_199 (pT := 244) (pF := 202) (by decide) (by decide) rfl (fun (h199_276 : c212 = c257) => ?_) (fun (h199_276 : ¬ (c212 = c257)) => ?_)
        · skip
          refine Run.iconst K at_244 (pc' := 245) rfl (v := (1 : Int32)) rfl ?_
          refine Run.goto K at_245 (pc' := 249) (by decide) (by decide) ?_
          exact J199
        · skip
          refine Run.iload K at_202 (pc' := 204) rfl rfl ?_
          refine Run.iconst K at_204 (pc' := 205) rfl (v := (1 : Int32)) rfl ?_
          refine Run.icmpF K at_205 (pT := 216) (pF := 208) (by decide) (by decide) rfl (show ¬ ((3 : Int32) ≤ (1 : Int32)) from by decide) ?_
          refine Run.lload K at_208 (pc' := 210) rfl rfl ?_
          refine Run.lload K at_210 (pc' := 212) rfl rfl ?_
          refine Run.lcmp K at_212 (pc' := 213) rfl ?_
          refine Run.ifLT K at_213 (pT := 244) (pF := 216) (by decide) (by decide) rfl (show c257 = c257 from rfl) ?_
          refine Run.iconst K at_244 (pc' := 245) rfl (v := (1 : Int32)) rfl ?_
          refine Run.goto K at_245 (pc' := 249) (by decide) (by decide) ?_
          exact J199
    · skip
      have hr := own_rk3 (k := 2) hcc hk hp226
      refine Run.lstore K at_165 (pc' := 167) rfl (L' := #[.val (.long p1), .second, .val (.long p2), .second, .val (.long p3), .second, .val (.long p4), .second, .val (.int p5), .val (.int p6), .val (.int (3 : Int32)), .val (.int (Int32.ofNat q224)), .val (.long c204), .second, .val (.long c206), .second, .val (.long c208), .second, .val (.long c210), .second, .val (.long c212), .second, .val (.long c214), .second, .val (.long c216), .second, .val (.long c218), .second, .val (.long c220), .second, .val (.long c257), .second, .val (.ref r255), .val (.long c257), .second, .unset, .unset, .unset, .unset, .unset]) rfl ?_
      refine Run.iload K at_167 (pc' := 169) rfl rfl ?_
      refine Run.ifcT K at_169 (pT := 185) (pF := 172) (by decide) (by decide) rfl (show (3 : Int32) ≠ (0 : Int32) from by decide) ?_
      refine Run.iload K at_185 (pc' := 187) rfl rfl ?_
      refine Run.i2l K at_187 (pc' := 188) rfl ?_
      refine Run.iload K at_188 (pc' := 190) rfl rfl ?_
      refine Run.i2lV K at_190 (pc' := 191) rfl (v := (3 : Int64)) (by decide) ?_
      refine Run.lmul K at_191 (pc' := 192) rfl ?_
      refine Run.lstore K at_192 (pc' := 194) rfl (L' := #[.val (.long p1), .second, .val (.long p2), .second, .val (.long p3), .second, .val (.long p4), .second, .val (.int p5), .val (.int p6), .val (.int (3 : Int32)), .val (.int (Int32.ofNat q224)), .val (.long c204), .second, .val (.long c206), .second, .val (.long c208), .second, .val (.long c210), .second, .val (.long c212), .second, .val (.long c214), .second, .val (.long c216), .second, .val (.long c218), .second, .val (.long c220), .second, .val (.long c257), .second, .val (.ref r255), .val (.long c257), .second, .val (.long (((Int32.ofNat q224).toInt64) * (3 : Int64))), .second, .unset, .unset, .unset]) rfl ?_
      refine Run.lload K at_194 (pc' := 196) rfl rfl ?_
      refine Run.lload K at_196 (pc' := 198) rfl rfl ?_
      refine Run.lcmp K at_198 (pc' := 199) rfl ?_
      refine Run.join0 (D' := ([], [(r255, .long, [(.long c212), (.long c220), (.long c257)])])) (cells' := 1) (slots' := 3) (pc' := 249) (L' := #[.val (.long p1), .second, .val (.long p2), .second, .val (.long p3), .second, .val (.long p4), .second, .val (.int p5), .val (.int p6), .val (.int (3 : Int32)), .val (.int (Int32.ofNat q224)), .val (.long c204), .second, .val (.long c206), .second, .val (.long c208), .second, .val (.long c210), .second, .val (.long c212), .second, .val (.long c214), .second, .val (.long c216), .second, .val (.long c218), .second, .val (.long c220), .second, .val (.long c257), .second, .val (.ref r255), .val (.long c257), .second, .val (.long (((Int32.ofNat q224).toInt64) * (3 : Int64))), .second, .unset, .unset, .unset]) (S' := [(.int (1 : Int32))]) ?_ (fun J199 => ?_)
      · skip
        refine Run.istore K at_249 (pc' := 251) rfl (L' := #[.val (.long p1), .second, .val (.long p2), .second, .val (.long p3), .second, .val (.long p4), .second, .val (.int p5), .val (.int p6), .val (.int (3 : Int32)), .val (.int (Int32.ofNat q224)), .val (.long c204), .second, .val (.long c206), .second, .val (.long c208), .second, .val (.long c210), .second, .val (.long c212), .second, .val (.long c214), .second, .val (.long c216), .second, .val (.long c218), .second, .val (.long c220), .second, .val (.long c257), .second, .val (.ref r255), .val (.long c257), .second, .val (.long (((Int32.ofNat q224).toInt64) * (3 : Int64))), .second, .val (.int (1 : Int32)), .unset, .unset]) rfl ?_
        refine Run.ldcJ K at_251 (pc' := 254) rfl (v := (100 : Int64)) (hw _ (List.mem_of_getElem? (i := 16) rfl)) ?_
        refine Run.lload K at_254 (pc' := 256) rfl rfl ?_
        refine Run.iload K at_256 (pc' := 258) rfl rfl ?_
        refine Run.lload K at_258 (pc' := 260) rfl rfl ?_
        refine Run.lload K at_260 (pc' := 262) rfl rfl ?_
        refine Run.lload K at_262 (pc' := 264) rfl rfl ?_
        refine Run.lload K at_264 (pc' := 266) rfl rfl ?_
        refine Run.callS K at_266 (pc' := 269) rfl (hw _ (List.mem_of_getElem? (i := 17) rfl)) (hw _ (List.mem_of_getElem? (i := 18) rfl)) (hw _ (List.mem_of_getElem? (i := 19) rfl)) (hw _ (List.mem_of_getElem? (i := 20) rfl)) (by decide) (cnt_3 l Z a0 n0 hw [] (c257) ((3 : Int32)) (c212) (c220) (c257) (c218) ([]) ([(r255, .long, [(.long c212), (.long c220), (.long c257)])]) (rfl)) (argsL := [(.long c257), (.int (3 : Int32)), (.long c212), (.long c220), (.long c257), (.long c218)]) (rest := [(.long (100 : Int64))]) rfl rfl pd_1 rfl (W := 2) rfl (by decide) (by decide) (cells' := 1) (slots' := 3) rfl rfl (by decide) (by decide) ?_
        intro vq Dq hq
        obtain ⟨c281, hc282, rfl, rfl⟩ := hq
        refine Run.as2 (D' := ([], [(r255, .long, [(.long c212), (.long c220), (.long c257)])])) (S' := [(.long c281), (.long (100 : Int64))]) rfl rfl ?_
        refine Run.lmul K at_269 (pc' := 270) rfl ?_
        refine Run.lload K at_270 (pc' := 272) rfl rfl ?_
        refine Run.lcmp K at_272 (pc' := 273) rfl ?_
        refine Run.ifLF K at_273 (pT := 280) (pF := 276) (by decide) (by decide) rfl (show ¬ (((100 : Int64) * c281) < (((Int32.ofNat q224).toInt64) * (3 : Int64))) from own_en_3_2 hs hr hp226 hc282) ?_
        refine Run.iconst K at_276 (pc' := 277) rfl (v := (1 : Int32)) rfl ?_
        refine Run.goto K at_277 (pc' := 281) (by decide) (by decide) ?_
        refine Run.istore K at_281 (pc' := 283) rfl (L' := #[.val (.long p1), .second, .val (.long p2), .second, .val (.long p3), .second, .val (.long p4), .second, .val (.int p5), .val (.int p6), .val (.int (3 : Int32)), .val (.int (Int32.ofNat q224)), .val (.long c204), .second, .val (.long c206), .second, .val (.long c208), .second, .val (.long c210), .second, .val (.long c212), .second, .val (.long c214), .second, .val (.long c216), .second, .val (.long c218), .second, .val (.long c220), .second, .val (.long c257), .second, .val (.ref r255), .val (.long c257), .second, .val (.long (((Int32.ofNat q224).toInt64) * (3 : Int64))), .second, .val (.int (1 : Int32)), .val (.int (1 : Int32)), .unset]) rfl ?_
        refine Run.lload K at_283 (pc' := 285) rfl rfl ?_
        refine Run.lload K at_285 (pc' := 287) rfl rfl ?_
        refine Run.iload K at_287 (pc' := 289) rfl rfl ?_
        refine Run.lload K at_289 (pc' := 291) rfl rfl ?_
        refine Run.lload K at_291 (pc' := 293) rfl rfl ?_
        refine Run.lload K at_293 (pc' := 295) rfl rfl ?_
        refine Run.lload K at_295 (pc' := 297) rfl rfl ?_
        refine Run.lload K at_297 (pc' := 299) rfl rfl ?_
        refine Run.callS K at_299 (pc' := 302) rfl (hw _ (List.mem_of_getElem? (i := 21) rfl)) (hw _ (List.mem_of_getElem? (i := 22) rfl)) (hw _ (List.mem_of_getElem? (i := 19) rfl)) (hw _ (List.mem_of_getElem? (i := 23) rfl)) (by decide) (fi_3 l Z a0 n0 hw [] (c212) (c257) ((3 : Int32)) ((((Int32.ofNat q224).toInt64) * (3 : Int64))) (c212) (c220) (c257) (c218) ([]) ([(r255, .long, [(.long c212), (.long c220), (.long c257)])]) (rfl)) (argsL := [(.long c212), (.long c257), (.int (3 : Int32)), (.long (((Int32.ofNat q224).toInt64) * (3 : Int64))), (.long c212), (.long c220), (.long c257), (.long c218)]) (rest := []) rfl rfl pd_3 rfl (W := 0) rfl (by decide) (by decide) (cells' := 1) (slots' := 3) rfl rfl (by decide) (by decide) ?_
        intro vq Dq hq
        obtain ⟨c283, hc284, rfl, rfl⟩ := hq
        refine Run.as2 (D' := ([], [(r255, .long, [(.long c212), (.long c220), (.long c257)])])) (S' := [(.int c283)]) rfl rfl ?_
        refine Run.ifcF K at_302 (pT := 393) (pF := 305) (by decide) (by decide) rfl (show ¬ (c283 = (0 : Int32)) from own_fi_3_2_0 hs hr hp226 hc284) ?_
        refine Run.iload K at_305 (pc' := 307) rfl rfl ?_
        refine Run.iconst K at_307 (pc' := 308) rfl (v := (1 : Int32)) rfl ?_
        refine Run.icmpF K at_308 (pT := 333) (pF := 311) (by decide) (by decide) rfl (show ¬ ((3 : Int32) ≤ (1 : Int32)) from by decide) ?_
        refine Run.lload K at_311 (pc' := 313) rfl rfl ?_
        refine Run.lload K at_313 (pc' := 315) rfl rfl ?_
        refine Run.iload K at_315 (pc' := 317) rfl rfl ?_
        refine Run.lload K at_317 (pc' := 319) rfl rfl ?_
        refine Run.lload K at_319 (pc' := 321) rfl rfl ?_
        refine Run.lload K at_321 (pc' := 323) rfl rfl ?_
        refine Run.lload K at_323 (pc' := 325) rfl rfl ?_
        refine Run.lload K at_325 (pc' := 327) rfl rfl ?_
        refine Run.callS K at_327 (pc' := 330) rfl (hw _ (List.mem_of_getElem? (i := 21) rfl)) (hw _ (List.mem_of_getElem? (i := 22) rfl)) (hw _ (List.mem_of_getElem? (i := 19) rfl)) (hw _ (List.mem_of_getElem? (i := 23) rfl)) (by decide) (fi_3 l Z a0 n0 hw [] (c220) (c257) ((3 : Int32)) ((((Int32.ofNat q224).toInt64) * (3 : Int64))) (c212) (c220) (c257) (c218) ([]) ([(r255, .long, [(.long c212), (.long c220), (.long c257)])]) (rfl)) (argsL := [(.long c220), (.long c257), (.int (3 : Int32)), (.long (((Int32.ofNat q224).toInt64) * (3 : Int64))), (.long c212), (.long c220), (.long c257), (.long c218)]) (rest := []) rfl rfl pd_3 rfl (W := 0) rfl (by decide) (by decide) (cells' := 1) (slots' := 3) rfl rfl (by decide) (by decide) ?_
        intro vq Dq hq
        obtain ⟨c285, hc286, rfl, rfl⟩ := hq
        refine Run.as2 (D' := ([], [(r255, .long, [(.long c212), (.long c220), (.long c257)])])) (S' := [(.int c285)]) rfl rfl ?_
        refine Run.ifcF K at_330 (pT := 393) (pF := 333) (by decide) (by decide) rfl (show ¬ (c285 = (0 : Int32)) from own_fi_3_2_1 hs hr hp226 hc286) ?_
        refine Run.iload K at_333 (pc' := 335) rfl rfl ?_
        refine Run.iconst K at_335 (pc' := 336) rfl (v := (2 : Int32)) rfl ?_
        refine Run.icmpF K at_336 (pT := 361) (pF := 339) (by decide) (by decide) rfl (show ¬ ((3 : Int32) ≤ (2 : Int32)) from by decide) ?_
        refine Run.lload K at_339 (pc' := 341) rfl rfl ?_
        refine Run.lload K at_341 (pc' := 343) rfl rfl ?_
        refine Run.iload K at_343 (pc' := 345) rfl rfl ?_
        refine Run.lload K at_345 (pc' := 347) rfl rfl ?_
        refine Run.lload K at_347 (pc' := 349) rfl rfl ?_
        refine Run.lload K at_349 (pc' := 351) rfl rfl ?_
        refine Run.lload K at_351 (pc' := 353) rfl rfl ?_
        refine Run.lload K at_353 (pc' := 355) rfl rfl ?_
        refine Run.callS K at_355 (pc' := 358) rfl (hw _ (List.mem_of_getElem? (i := 21) rfl)) (hw _ (List.mem_of_getElem? (i := 22) rfl)) (hw _ (List.mem_of_getElem? (i := 19) rfl)) (hw _ (List.mem_of_getElem? (i := 23) rfl)) (by decide) (fi_3 l Z a0 n0 hw [] (c257) (c257) ((3 : Int32)) ((((Int32.ofNat q224).toInt64) * (3 : Int64))) (c212) (c220) (c257) (c218) ([]) ([(r255, .long, [(.long c212), (.long c220), (.long c257)])]) (rfl)) (argsL := [(.long c257), (.long c257), (.int (3 : Int32)), (.long (((Int32.ofNat q224).toInt64) * (3 : Int64))), (.long c212), (.long c220), (.long c257), (.long c218)]) (rest := []) rfl rfl pd_3 rfl (W := 0) rfl (by decide) (by decide) (cells' := 1) (slots' := 3) rfl rfl (by decide) (by decide) ?_
        intro vq Dq hq
        obtain ⟨c287, hc288, rfl, rfl⟩ := hq
        refine Run.as2 (D' := ([], [(r255, .long, [(.long c212), (.long c220), (.long c257)])])) (S' := [(.int c287)]) rfl rfl ?_
        refine Run.ifcF K at_358 (pT := 393) (pF := 361) (by decide) (by decide) rfl (show ¬ (c287 = (0 : Int32)) from own_fi_3_2_2 hs hr hp226 hc288) ?_
        refine Run.iload K at_361 (pc' := 363) rfl rfl ?_
        refine Run.iconst K at_363 (pc' := 364) rfl (v := (3 : Int32)) rfl ?_
        refine Run.icmpT K at_364 (pT := 389) (pF := 367) (by decide) (by decide) rfl (show (3 : Int32) ≤ (3 : Int32) from by decide) ?_
        refine Run.iconst K at_389 (pc' := 390) rfl (v := (1 : Int32)) rfl ?_
        refine Run.goto K at_390 (pc' := 394) (by decide) (by decide) ?_
        refine Run.istore K at_394 (pc' := 396) rfl (L' := #[.val (.long p1), .second, .val (.long p2), .second, .val (.long p3), .second, .val (.long p4), .second, .val (.int p5), .val (.int p6), .val (.int (3 : Int32)), .val (.int (Int32.ofNat q224)), .val (.long c204), .second, .val (.long c206), .second, .val (.long c208), .second, .val (.long c210), .second, .val (.long c212), .second, .val (.long c214), .second, .val (.long c216), .second, .val (.long c218), .second, .val (.long c220), .second, .val (.long c257), .second, .val (.ref r255), .val (.long c257), .second, .val (.long (((Int32.ofNat q224).toInt64) * (3 : Int64))), .second, .val (.int (1 : Int32)), .val (.int (1 : Int32)), .val (.int (1 : Int32))]) rfl ?_
        refine Run.iload K at_396 (pc' := 398) rfl rfl ?_
        refine Run.ifcF K at_398 (pT := 415) (pF := 401) (by decide) (by decide) rfl (show ¬ ((1 : Int32) = (0 : Int32)) from by decide) ?_
        refine Run.iload K at_401 (pc' := 403) rfl rfl ?_
        refine Run.ifcF K at_403 (pT := 415) (pF := 406) (by decide) (by decide) rfl (show ¬ ((1 : Int32) = (0 : Int32)) from by decide) ?_
        refine Run.iload K at_406 (pc' := 408) rfl rfl ?_
        refine Run.ifcF K at_408 (pT := 415) (pF := 411) (by decide) (by decide) rfl (show ¬ ((1 : Int32) = (0 : Int32)) from by decide) ?_
        refine Run.iconst K at_411 (pc' := 412) rfl (v := (1 : Int32)) rfl ?_
        refine Run.goto K at_412 (pc' := 416) (by decide) (by decide) ?_
        exact Run.retN K at_416 (w := (1 : Int32)) rfl (by decide) (by decide) (by decide) (by decide) rfl
      · skip
        refine Run.ifL K at_199 (pT := 244) (pF := 202) (by decide) (by decide) rfl (fun (h199_288 : c212 = c257) => ?_) (fun (h199_288 : ¬ (c212 = c257)) => ?_)
        · skip
          refine Run.iconst K at_244 (pc' := 245) rfl (v := (1 : Int32)) rfl ?_
          refine Run.goto K at_245 (pc' := 249) (by decide) (by decide) ?_
          exact J199
        · skip
          refine Run.iload K at_202 (pc' := 204) rfl rfl ?_
          refine Run.iconst K at_204 (pc' := 205) rfl (v := (1 : Int32)) rfl ?_
          refine Run.icmpF K at_205 (pT := 216) (pF := 208) (by decide) (by decide) rfl (show ¬ ((3 : Int32) ≤ (1 : Int32)) from by decide) ?_
          refine Run.lload K at_208 (pc' := 210) rfl rfl ?_
          refine Run.lload K at_210 (pc' := 212) rfl rfl ?_
          refine Run.lcmp K at_212 (pc' := 213) rfl ?_
          refine Run.ifL K at_213 (pT := 244) (pF := 216) (by decide) (by decide) rfl (fun (h213_289 : c220 = c257) => ?_) (fun (h213_289 : ¬ (c220 = c257)) => ?_)
          · skip
            refine Run.iconst K at_244 (pc' := 245) rfl (v := (1 : Int32)) rfl ?_
            refine Run.goto K at_245 (pc' := 249) (by decide) (by decide) ?_
            exact J199
          · skip
            refine Run.iload K at_216 (pc' := 218) rfl rfl ?_
            refine Run.iconst K at_218 (pc' := 219) rfl (v := (2 : Int32)) rfl ?_
            refine Run.icmpF K at_219 (pT := 230) (pF := 222) (by decide) (by decide) rfl (show ¬ ((3 : Int32) ≤ (2 : Int32)) from by decide) ?_
            refine Run.lload K at_222 (pc' := 224) rfl rfl ?_
            refine Run.lload K at_224 (pc' := 226) rfl rfl ?_
            refine Run.lcmp K at_226 (pc' := 227) rfl ?_
            refine Run.ifLT K at_227 (pT := 244) (pF := 230) (by decide) (by decide) rfl (show c257 = c257 from rfl) ?_
            refine Run.iconst K at_244 (pc' := 245) rfl (v := (1 : Int32)) rfl ?_
            refine Run.goto K at_245 (pc' := 249) (by decide) (by decide) ?_
            exact J199
  · rw [hq227]
    refine Run.iload K at_105 (pc' := 107) rfl rfl ?_
    refine Run.newA K at_107 (pc' := 109) rfl (ty := .long) rfl (hw _ (List.mem_of_getElem? (i := 8) rfl)) (by decide) (vs := [(.long (0 : Int64)), (.long (0 : Int64)), (.long (0 : Int64)), (.long (0 : Int64))]) (rfl) (cap := 4) (by decide) (by decide) (cells' := 1) (slots' := 4) rfl rfl (by decide) (by decide) rfl (fun r291 => ?_)
    refine Run.as (D' := ([], [(r291, .long, [(.long (0 : Int64)), (.long (0 : Int64)), (.long (0 : Int64)), (.long (0 : Int64))])])) rfl ?_
    refine Run.astore K at_109 (pc' := 111) rfl rfl (L' := #[.val (.long p1), .second, .val (.long p2), .second, .val (.long p3), .second, .val (.long p4), .second, .val (.int p5), .val (.int p6), .val (.int (4 : Int32)), .val (.int (Int32.ofNat q224)), .val (.long c204), .second, .val (.long c206), .second, .val (.long c208), .second, .val (.long c210), .second, .val (.long c212), .second, .val (.long c214), .second, .val (.long c216), .second, .val (.long c218), .second, .val (.long c220), .second, .val (.long c222), .second, .val (.ref r291), .unset, .unset, .unset, .unset, .unset, .unset, .unset]) rfl ?_
    refine Run.iload K at_111 (pc' := 113) rfl rfl ?_
    refine Run.ifcF K at_113 (pT := 122) (pF := 116) (by decide) (by decide) rfl (show ¬ ((4 : Int32) ≤ (0 : Int32)) from by decide) ?_
    refine Run.aload K at_116 (pc' := 118) rfl rfl rfl ?_
    refine Run.iconst K at_118 (pc' := 119) rfl (v := (0 : Int32)) rfl ?_
    refine Run.lload K at_119 (pc' := 121) rfl rfl ?_
    refine Run.lastore K at_121 (pc' := 122) rfl (i := 0) (q := 0) rfl (by decide) (by decide) (v := (.long (0 : Int64))) (rfl) (D' := ([], [(r291, .long, [(.long c212), (.long (0 : Int64)), (.long (0 : Int64)), (.long (0 : Int64))])])) rfl ?_
    refine Run.iload K at_122 (pc' := 124) rfl rfl ?_
    refine Run.iconst K at_124 (pc' := 125) rfl (v := (1 : Int32)) rfl ?_
    refine Run.icmpF K at_125 (pT := 134) (pF := 128) (by decide) (by decide) rfl (show ¬ ((4 : Int32) ≤ (1 : Int32)) from by decide) ?_
    refine Run.aload K at_128 (pc' := 130) rfl rfl rfl ?_
    refine Run.iconst K at_130 (pc' := 131) rfl (v := (1 : Int32)) rfl ?_
    refine Run.lload K at_131 (pc' := 133) rfl rfl ?_
    refine Run.lastore K at_133 (pc' := 134) rfl (i := 0) (q := 1) rfl (by decide) (by decide) (v := (.long (0 : Int64))) (rfl) (D' := ([], [(r291, .long, [(.long c212), (.long c220), (.long (0 : Int64)), (.long (0 : Int64))])])) rfl ?_
    refine Run.iload K at_134 (pc' := 136) rfl rfl ?_
    refine Run.iconst K at_136 (pc' := 137) rfl (v := (2 : Int32)) rfl ?_
    refine Run.icmpF K at_137 (pT := 146) (pF := 140) (by decide) (by decide) rfl (show ¬ ((4 : Int32) ≤ (2 : Int32)) from by decide) ?_
    refine Run.aload K at_140 (pc' := 142) rfl rfl rfl ?_
    refine Run.iconst K at_142 (pc' := 143) rfl (v := (2 : Int32)) rfl ?_
    refine Run.lload K at_143 (pc' := 145) rfl rfl ?_
    refine Run.lastore K at_145 (pc' := 146) rfl (i := 0) (q := 2) rfl (by decide) (by decide) (v := (.long (0 : Int64))) (rfl) (D' := ([], [(r291, .long, [(.long c212), (.long c220), (.long c222), (.long (0 : Int64))])])) rfl ?_
    refine Run.iload K at_146 (pc' := 148) rfl rfl ?_
    refine Run.iconst K at_148 (pc' := 149) rfl (v := (3 : Int32)) rfl ?_
    refine Run.icmpF K at_149 (pT := 158) (pF := 152) (by decide) (by decide) rfl (show ¬ ((4 : Int32) ≤ (3 : Int32)) from by decide) ?_
    refine Run.aload K at_152 (pc' := 154) rfl rfl rfl ?_
    refine Run.iconst K at_154 (pc' := 155) rfl (v := (3 : Int32)) rfl ?_
    refine Run.lload K at_155 (pc' := 157) rfl rfl ?_
    refine Run.lastore K at_157 (pc' := 158) rfl (i := 0) (q := 3) rfl (by decide) (by decide) (v := (.long (0 : Int64))) (rfl) (D' := ([], [(r291, .long, [(.long c212), (.long c220), (.long c222), (.long c218)])])) rfl ?_
    refine Run.aload K at_158 (pc' := 160) rfl rfl rfl ?_
    refine Run.iload K at_160 (pc' := 162) rfl rfl ?_
    refine Run.callS K at_162 (pc' := 165) rfl (hw _ (List.mem_of_getElem? (i := 9) rfl)) (hw _ (List.mem_of_getElem? (i := 10) rfl)) (hw _ (List.mem_of_getElem? (i := 11) rfl)) (hw _ (List.mem_of_getElem? (i := 12) rfl)) (by decide) (pc_4 l Z a0 n0 hw [] (r291) ((Int32.ofNat q224)) (c212) (c220) (c222) (c218) (q224) ([]) ([]) (rfl) (hp226)) (argsL := [(.ref r291), (.int (Int32.ofNat q224))]) (rest := []) rfl rfl pd_2 rfl (W := 0) rfl (by decide) (by decide) (cells' := 1) (slots' := 4) rfl rfl (by decide) (by decide) ?_
    intro vq Dq hq
    obtain ⟨c292, c293, hc294, rfl, rfl⟩ := hq
    refine Run.as2 (D' := ([], [(r291, .long, [(.long c212), (.long c220), (.long c222), (.long c218)])])) (S' := [(.long c293)]) rfl rfl ?_
    obtain ⟨hcc, hjj⟩ := hc294
    obtain ⟨-, -, hr1, hr2⟩ := own_rank (N := 4) (by decide) (by decide) (by decide) hp226 hcc
    rcases hjj with ⟨hk, rfl⟩ | ⟨hk, rfl⟩ | ⟨hk, rfl⟩ | ⟨hk, rfl⟩
    · skip
      have hr := own_rk4 (k := 0) hcc hk hp226
      refine Run.lstore K at_165 (pc' := 167) rfl (L' := #[.val (.long p1), .second, .val (.long p2), .second, .val (.long p3), .second, .val (.long p4), .second, .val (.int p5), .val (.int p6), .val (.int (4 : Int32)), .val (.int (Int32.ofNat q224)), .val (.long c204), .second, .val (.long c206), .second, .val (.long c208), .second, .val (.long c210), .second, .val (.long c293), .second, .val (.long c214), .second, .val (.long c216), .second, .val (.long c218), .second, .val (.long c220), .second, .val (.long c222), .second, .val (.ref r291), .val (.long c293), .second, .unset, .unset, .unset, .unset, .unset]) rfl ?_
      refine Run.iload K at_167 (pc' := 169) rfl rfl ?_
      refine Run.ifcT K at_169 (pT := 185) (pF := 172) (by decide) (by decide) rfl (show (4 : Int32) ≠ (0 : Int32) from by decide) ?_
      refine Run.iload K at_185 (pc' := 187) rfl rfl ?_
      refine Run.i2l K at_187 (pc' := 188) rfl ?_
      refine Run.iload K at_188 (pc' := 190) rfl rfl ?_
      refine Run.i2lV K at_190 (pc' := 191) rfl (v := (4 : Int64)) (by decide) ?_
      refine Run.lmul K at_191 (pc' := 192) rfl ?_
      refine Run.lstore K at_192 (pc' := 194) rfl (L' := #[.val (.long p1), .second, .val (.long p2), .second, .val (.long p3), .second, .val (.long p4), .second, .val (.int p5), .val (.int p6), .val (.int (4 : Int32)), .val (.int (Int32.ofNat q224)), .val (.long c204), .second, .val (.long c206), .second, .val (.long c208), .second, .val (.long c210), .second, .val (.long c293), .second, .val (.long c214), .second, .val (.long c216), .second, .val (.long c218), .second, .val (.long c220), .second, .val (.long c222), .second, .val (.ref r291), .val (.long c293), .second, .val (.long (((Int32.ofNat q224).toInt64) * (4 : Int64))), .second, .unset, .unset, .unset]) rfl ?_
      refine Run.lload K at_194 (pc' := 196) rfl rfl ?_
      refine Run.lload K at_196 (pc' := 198) rfl rfl ?_
      refine Run.lcmp K at_198 (pc' := 199) rfl ?_
      refine Run.ifLT K at_199 (pT := 244) (pF := 202) (by decide) (by decide) rfl (show c293 = c293 from rfl) ?_
      refine Run.iconst K at_244 (pc' := 245) rfl (v := (1 : Int32)) rfl ?_
      refine Run.goto K at_245 (pc' := 249) (by decide) (by decide) ?_
      refine Run.istore K at_249 (pc' := 251) rfl (L' := #[.val (.long p1), .second, .val (.long p2), .second, .val (.long p3), .second, .val (.long p4), .second, .val (.int p5), .val (.int p6), .val (.int (4 : Int32)), .val (.int (Int32.ofNat q224)), .val (.long c204), .second, .val (.long c206), .second, .val (.long c208), .second, .val (.long c210), .second, .val (.long c293), .second, .val (.long c214), .second, .val (.long c216), .second, .val (.long c218), .second, .val (.long c220), .second, .val (.long c222), .second, .val (.ref r291), .val (.long c293), .second, .val (.long (((Int32.ofNat q224).toInt64) * (4 : Int64))), .second, .val (.int (1 : Int32)), .unset, .unset]) rfl ?_
      refine Run.ldcJ K at_251 (pc' := 254) rfl (v := (100 : Int64)) (hw _ (List.mem_of_getElem? (i := 16) rfl)) ?_
      refine Run.lload K at_254 (pc' := 256) rfl rfl ?_
      refine Run.iload K at_256 (pc' := 258) rfl rfl ?_
      refine Run.lload K at_258 (pc' := 260) rfl rfl ?_
      refine Run.lload K at_260 (pc' := 262) rfl rfl ?_
      refine Run.lload K at_262 (pc' := 264) rfl rfl ?_
      refine Run.lload K at_264 (pc' := 266) rfl rfl ?_
      refine Run.callS K at_266 (pc' := 269) rfl (hw _ (List.mem_of_getElem? (i := 17) rfl)) (hw _ (List.mem_of_getElem? (i := 18) rfl)) (hw _ (List.mem_of_getElem? (i := 19) rfl)) (hw _ (List.mem_of_getElem? (i := 20) rfl)) (by decide) (cnt_4 l Z a0 n0 hw [] (c293) ((4 : Int32)) (c293) (c220) (c222) (c218) ([]) ([(r291, .long, [(.long c293), (.long c220), (.long c222), (.long c218)])]) (rfl)) (argsL := [(.long c293), (.int (4 : Int32)), (.long c293), (.long c220), (.long c222), (.long c218)]) (rest := [(.long (100 : Int64))]) rfl rfl pd_1 rfl (W := 2) rfl (by decide) (by decide) (cells' := 1) (slots' := 4) rfl rfl (by decide) (by decide) ?_
      intro vq Dq hq
      obtain ⟨c295, hc296, rfl, rfl⟩ := hq
      refine Run.as2 (D' := ([], [(r291, .long, [(.long c293), (.long c220), (.long c222), (.long c218)])])) (S' := [(.long c295), (.long (100 : Int64))]) rfl rfl ?_
      refine Run.lmul K at_269 (pc' := 270) rfl ?_
      refine Run.lload K at_270 (pc' := 272) rfl rfl ?_
      refine Run.lcmp K at_272 (pc' := 273) rfl ?_
      refine Run.ifLF K at_273 (pT := 280) (pF := 276) (by decide) (by decide) rfl (show ¬ (((100 : Int64) * c295) < (((Int32.ofNat q224).toInt64) * (4 : Int64))) from own_en_4_0 hs hr hp226 hc296) ?_
      refine Run.iconst K at_276 (pc' := 277) rfl (v := (1 : Int32)) rfl ?_
      refine Run.goto K at_277 (pc' := 281) (by decide) (by decide) ?_
      refine Run.istore K at_281 (pc' := 283) rfl (L' := #[.val (.long p1), .second, .val (.long p2), .second, .val (.long p3), .second, .val (.long p4), .second, .val (.int p5), .val (.int p6), .val (.int (4 : Int32)), .val (.int (Int32.ofNat q224)), .val (.long c204), .second, .val (.long c206), .second, .val (.long c208), .second, .val (.long c210), .second, .val (.long c293), .second, .val (.long c214), .second, .val (.long c216), .second, .val (.long c218), .second, .val (.long c220), .second, .val (.long c222), .second, .val (.ref r291), .val (.long c293), .second, .val (.long (((Int32.ofNat q224).toInt64) * (4 : Int64))), .second, .val (.int (1 : Int32)), .val (.int (1 : Int32)), .unset]) rfl ?_
      refine Run.lload K at_283 (pc' := 285) rfl rfl ?_
      refine Run.lload K at_285 (pc' := 287) rfl rfl ?_
      refine Run.iload K at_287 (pc' := 289) rfl rfl ?_
      refine Run.lload K at_289 (pc' := 291) rfl rfl ?_
      refine Run.lload K at_291 (pc' := 293) rfl rfl ?_
      refine Run.lload K at_293 (pc' := 295) rfl rfl ?_
      refine Run.lload K at_295 (pc' := 297) rfl rfl ?_
      refine Run.lload K at_297 (pc' := 299) rfl rfl ?_
      refine Run.callS K at_299 (pc' := 302) rfl (hw _ (List.mem_of_getElem? (i := 21) rfl)) (hw _ (List.mem_of_getElem? (i := 22) rfl)) (hw _ (List.mem_of_getElem? (i := 19) rfl)) (hw _ (List.mem_of_getElem? (i := 23) rfl)) (by decide) (fi_4 l Z a0 n0 hw [] (c293) (c293) ((4 : Int32)) ((((Int32.ofNat q224).toInt64) * (4 : Int64))) (c293) (c220) (c222) (c218) ([]) ([(r291, .long, [(.long c293), (.long c220), (.long c222), (.long c218)])]) (rfl)) (argsL := [(.long c293), (.long c293), (.int (4 : Int32)), (.long (((Int32.ofNat q224).toInt64) * (4 : Int64))), (.long c293), (.long c220), (.long c222), (.long c218)]) (rest := []) rfl rfl pd_3 rfl (W := 0) rfl (by decide) (by decide) (cells' := 1) (slots' := 4) rfl rfl (by decide) (by decide) ?_
      intro vq Dq hq
      obtain ⟨c297, hc298, rfl, rfl⟩ := hq
      refine Run.as2 (D' := ([], [(r291, .long, [(.long c293), (.long c220), (.long c222), (.long c218)])])) (S' := [(.int c297)]) rfl rfl ?_
      refine Run.ifcF K at_302 (pT := 393) (pF := 305) (by decide) (by decide) rfl (show ¬ (c297 = (0 : Int32)) from own_fi_4_0_0 hs hr hp226 hc298) ?_
      refine Run.iload K at_305 (pc' := 307) rfl rfl ?_
      refine Run.iconst K at_307 (pc' := 308) rfl (v := (1 : Int32)) rfl ?_
      refine Run.icmpF K at_308 (pT := 333) (pF := 311) (by decide) (by decide) rfl (show ¬ ((4 : Int32) ≤ (1 : Int32)) from by decide) ?_
      refine Run.lload K at_311 (pc' := 313) rfl rfl ?_
      refine Run.lload K at_313 (pc' := 315) rfl rfl ?_
      refine Run.iload K at_315 (pc' := 317) rfl rfl ?_
      refine Run.lload K at_317 (pc' := 319) rfl rfl ?_
      refine Run.lload K at_319 (pc' := 321) rfl rfl ?_
      refine Run.lload K at_321 (pc' := 323) rfl rfl ?_
      refine Run.lload K at_323 (pc' := 325) rfl rfl ?_
      refine Run.lload K at_325 (pc' := 327) rfl rfl ?_
      refine Run.callS K at_327 (pc' := 330) rfl (hw _ (List.mem_of_getElem? (i := 21) rfl)) (hw _ (List.mem_of_getElem? (i := 22) rfl)) (hw _ (List.mem_of_getElem? (i := 19) rfl)) (hw _ (List.mem_of_getElem? (i := 23) rfl)) (by decide) (fi_4 l Z a0 n0 hw [] (c220) (c293) ((4 : Int32)) ((((Int32.ofNat q224).toInt64) * (4 : Int64))) (c293) (c220) (c222) (c218) ([]) ([(r291, .long, [(.long c293), (.long c220), (.long c222), (.long c218)])]) (rfl)) (argsL := [(.long c220), (.long c293), (.int (4 : Int32)), (.long (((Int32.ofNat q224).toInt64) * (4 : Int64))), (.long c293), (.long c220), (.long c222), (.long c218)]) (rest := []) rfl rfl pd_3 rfl (W := 0) rfl (by decide) (by decide) (cells' := 1) (slots' := 4) rfl rfl (by decide) (by decide) ?_
      intro vq Dq hq
      obtain ⟨c299, hc300, rfl, rfl⟩ := hq
      refine Run.as2 (D' := ([], [(r291, .long, [(.long c293), (.long c220), (.long c222), (.long c218)])])) (S' := [(.int c299)]) rfl rfl ?_
      refine Run.ifcF K at_330 (pT := 393) (pF := 333) (by decide) (by decide) rfl (show ¬ (c299 = (0 : Int32)) from own_fi_4_0_1 hs hr hp226 hc300) ?_
      refine Run.iload K at_333 (pc' := 335) rfl rfl ?_
      refine Run.iconst K at_335 (pc' := 336) rfl (v := (2 : Int32)) rfl ?_
      refine Run.icmpF K at_336 (pT := 361) (pF := 339) (by decide) (by decide) rfl (show ¬ ((4 : Int32) ≤ (2 : Int32)) from by decide) ?_
      refine Run.lload K at_339 (pc' := 341) rfl rfl ?_
      refine Run.lload K at_341 (pc' := 343) rfl rfl ?_
      refine Run.iload K at_343 (pc' := 345) rfl rfl ?_
      refine Run.lload K at_345 (pc' := 347) rfl rfl ?_
      refine Run.lload K at_347 (pc' := 349) rfl rfl ?_
      refine Run.lload K at_349 (pc' := 351) rfl rfl ?_
      refine Run.lload K at_351 (pc' := 353) rfl rfl ?_
      refine Run.lload K at_353 (pc' := 355) rfl rfl ?_
      refine Run.callS K at_355 (pc' := 358) rfl (hw _ (List.mem_of_getElem? (i := 21) rfl)) (hw _ (List.mem_of_getElem? (i := 22) rfl)) (hw _ (List.mem_of_getElem? (i := 19) rfl)) (hw _ (List.mem_of_getElem? (i := 23) rfl)) (by decide) (fi_4 l Z a0 n0 hw [] (c222) (c293) ((4 : Int32)) ((((Int32.ofNat q224).toInt64) * (4 : Int64))) (c293) (c220) (c222) (c218) ([]) ([(r291, .long, [(.long c293), (.long c220), (.long c222), (.long c218)])]) (rfl)) (argsL := [(.long c222), (.long c293), (.int (4 : Int32)), (.long (((Int32.ofNat q224).toInt64) * (4 : Int64))), (.long c293), (.long c220), (.long c222), (.long c218)]) (rest := []) rfl rfl pd_3 rfl (W := 0) rfl (by decide) (by decide) (cells' := 1) (slots' := 4) rfl rfl (by decide) (by decide) ?_
      intro vq Dq hq
      obtain ⟨c301, hc302, rfl, rfl⟩ := hq
      refine Run.as2 (D' := ([], [(r291, .long, [(.long c293), (.long c220), (.long c222), (.long c218)])])) (S' := [(.int c301)]) rfl rfl ?_
      refine Run.ifcF K at_358 (pT := 393) (pF := 361) (by decide) (by decide) rfl (show ¬ (c301 = (0 : Int32)) from own_fi_4_0_2 hs hr hp226 hc302) ?_
      refine Run.iload K at_361 (pc' := 363) rfl rfl ?_
      refine Run.iconst K at_363 (pc' := 364) rfl (v := (3 : Int32)) rfl ?_
      refine Run.icmpF K at_364 (pT := 389) (pF := 367) (by decide) (by decide) rfl (show ¬ ((4 : Int32) ≤ (3 : Int32)) from by decide) ?_
      refine Run.lload K at_367 (pc' := 369) rfl rfl ?_
      refine Run.lload K at_369 (pc' := 371) rfl rfl ?_
      refine Run.iload K at_371 (pc' := 373) rfl rfl ?_
      refine Run.lload K at_373 (pc' := 375) rfl rfl ?_
      refine Run.lload K at_375 (pc' := 377) rfl rfl ?_
      refine Run.lload K at_377 (pc' := 379) rfl rfl ?_
      refine Run.lload K at_379 (pc' := 381) rfl rfl ?_
      refine Run.lload K at_381 (pc' := 383) rfl rfl ?_
      refine Run.callS K at_383 (pc' := 386) rfl (hw _ (List.mem_of_getElem? (i := 21) rfl)) (hw _ (List.mem_of_getElem? (i := 22) rfl)) (hw _ (List.mem_of_getElem? (i := 19) rfl)) (hw _ (List.mem_of_getElem? (i := 23) rfl)) (by decide) (fi_4 l Z a0 n0 hw [] (c218) (c293) ((4 : Int32)) ((((Int32.ofNat q224).toInt64) * (4 : Int64))) (c293) (c220) (c222) (c218) ([]) ([(r291, .long, [(.long c293), (.long c220), (.long c222), (.long c218)])]) (rfl)) (argsL := [(.long c218), (.long c293), (.int (4 : Int32)), (.long (((Int32.ofNat q224).toInt64) * (4 : Int64))), (.long c293), (.long c220), (.long c222), (.long c218)]) (rest := []) rfl rfl pd_3 rfl (W := 0) rfl (by decide) (by decide) (cells' := 1) (slots' := 4) rfl rfl (by decide) (by decide) ?_
      intro vq Dq hq
      obtain ⟨c303, hc304, rfl, rfl⟩ := hq
      refine Run.as2 (D' := ([], [(r291, .long, [(.long c293), (.long c220), (.long c222), (.long c218)])])) (S' := [(.int c303)]) rfl rfl ?_
      refine Run.ifcF K at_386 (pT := 393) (pF := 389) (by decide) (by decide) rfl (show ¬ (c303 = (0 : Int32)) from own_fi_4_0_3 hs hr hp226 hc304) ?_
      refine Run.iconst K at_389 (pc' := 390) rfl (v := (1 : Int32)) rfl ?_
      refine Run.goto K at_390 (pc' := 394) (by decide) (by decide) ?_
      refine Run.istore K at_394 (pc' := 396) rfl (L' := #[.val (.long p1), .second, .val (.long p2), .second, .val (.long p3), .second, .val (.long p4), .second, .val (.int p5), .val (.int p6), .val (.int (4 : Int32)), .val (.int (Int32.ofNat q224)), .val (.long c204), .second, .val (.long c206), .second, .val (.long c208), .second, .val (.long c210), .second, .val (.long c293), .second, .val (.long c214), .second, .val (.long c216), .second, .val (.long c218), .second, .val (.long c220), .second, .val (.long c222), .second, .val (.ref r291), .val (.long c293), .second, .val (.long (((Int32.ofNat q224).toInt64) * (4 : Int64))), .second, .val (.int (1 : Int32)), .val (.int (1 : Int32)), .val (.int (1 : Int32))]) rfl ?_
      refine Run.iload K at_396 (pc' := 398) rfl rfl ?_
      refine Run.ifcF K at_398 (pT := 415) (pF := 401) (by decide) (by decide) rfl (show ¬ ((1 : Int32) = (0 : Int32)) from by decide) ?_
      refine Run.iload K at_401 (pc' := 403) rfl rfl ?_
      refine Run.ifcF K at_403 (pT := 415) (pF := 406) (by decide) (by decide) rfl (show ¬ ((1 : Int32) = (0 : Int32)) from by decide) ?_
      refine Run.iload K at_406 (pc' := 408) rfl rfl ?_
      refine Run.ifcF K at_408 (pT := 415) (pF := 411) (by decide) (by decide) rfl (show ¬ ((1 : Int32) = (0 : Int32)) from by decide) ?_
      refine Run.iconst K at_411 (pc' := 412) rfl (v := (1 : Int32)) rfl ?_
      refine Run.goto K at_412 (pc' := 416) (by decide) (by decide) ?_
      exact Run.retN K at_416 (w := (1 : Int32)) rfl (by decide) (by decide) (by decide) (by decide) rfl
    · skip
      have hr := own_rk4 (k := 1) hcc hk hp226
      refine Run.lstore K at_165 (pc' := 167) rfl (L' := #[.val (.long p1), .second, .val (.long p2), .second, .val (.long p3), .second, .val (.long p4), .second, .val (.int p5), .val (.int p6), .val (.int (4 : Int32)), .val (.int (Int32.ofNat q224)), .val (.long c204), .second, .val (.long c206), .second, .val (.long c208), .second, .val (.long c210), .second, .val (.long c212), .second, .val (.long c214), .second, .val (.long c216), .second, .val (.long c218), .second, .val (.long c293), .second, .val (.long c222), .second, .val (.ref r291), .val (.long c293), .second, .unset, .unset, .unset, .unset, .unset]) rfl ?_
      refine Run.iload K at_167 (pc' := 169) rfl rfl ?_
      refine Run.ifcT K at_169 (pT := 185) (pF := 172) (by decide) (by decide) rfl (show (4 : Int32) ≠ (0 : Int32) from by decide) ?_
      refine Run.iload K at_185 (pc' := 187) rfl rfl ?_
      refine Run.i2l K at_187 (pc' := 188) rfl ?_
      refine Run.iload K at_188 (pc' := 190) rfl rfl ?_
      refine Run.i2lV K at_190 (pc' := 191) rfl (v := (4 : Int64)) (by decide) ?_
      refine Run.lmul K at_191 (pc' := 192) rfl ?_
      refine Run.lstore K at_192 (pc' := 194) rfl (L' := #[.val (.long p1), .second, .val (.long p2), .second, .val (.long p3), .second, .val (.long p4), .second, .val (.int p5), .val (.int p6), .val (.int (4 : Int32)), .val (.int (Int32.ofNat q224)), .val (.long c204), .second, .val (.long c206), .second, .val (.long c208), .second, .val (.long c210), .second, .val (.long c212), .second, .val (.long c214), .second, .val (.long c216), .second, .val (.long c218), .second, .val (.long c293), .second, .val (.long c222), .second, .val (.ref r291), .val (.long c293), .second, .val (.long (((Int32.ofNat q224).toInt64) * (4 : Int64))), .second, .unset, .unset, .unset]) rfl ?_
      refine Run.lload K at_194 (pc' := 196) rfl rfl ?_
      refine Run.lload K at_196 (pc' := 198) rfl rfl ?_
      refine Run.lcmp K at_198 (pc' := 199) rfl ?_
      refine Run.join0 (D' := ([], [(r291, .long, [(.long c212), (.long c293), (.long c222), (.long c218)])])) (cells' := 1) (slots' := 4) (pc' := 249) (L' := #[.val (.long p1), .second, .val (.long p2), .second, .val (.long p3), .second, .val (.long p4), .second, .val (.int p5), .val (.int p6), .val (.int (4 : Int32)), .val (.int (Int32.ofNat q224)), .val (.long c204), .second, .val (.long c206), .second, .val (.long c208), .second, .val (.long c210), .second, .val (.long c212), .second, .val (.long c214), .second, .val (.long c216), .second, .val (.long c218), .second, .val (.long c293), .second, .val (.long c222), .second, .val (.ref r291), .val (.long c293), .second, .val (.long (((Int32.ofNat q224).toInt64) * (4 : Int64))), .second, .unset, .unset, .unset]) (S' := [(.int (1 : Int32))]) ?_ (fun J199 => ?_)
      · skip
        refine Run.istore K at_249 (pc' := 251) rfl (L' := #[.val (.long p1), .second, .val (.long p2), .second, .val (.long p3), .second, .val (.long p4), .second, .val (.int p5), .val (.int p6), .val (.int (4 : Int32)), .val (.int (Int32.ofNat q224)), .val (.long c204), .second, .val (.long c206), .second, .val (.long c208), .second, .val (.long c210), .second, .val (.long c212), .second, .val (.long c214), .second, .val (.long c216), .second, .val (.long c218), .second, .val (.long c293), .second, .val (.long c222), .second, .val (.ref r291), .val (.long c293), .second, .val (.long (((Int32.ofNat q224).toInt64) * (4 : Int64))), .second, .val (.int (1 : Int32)), .unset, .unset]) rfl ?_
        refine Run.ldcJ K at_251 (pc' := 254) rfl (v := (100 : Int64)) (hw _ (List.mem_of_getElem? (i := 16) rfl)) ?_
        refine Run.lload K at_254 (pc' := 256) rfl rfl ?_
        refine Run.iload K at_256 (pc' := 258) rfl rfl ?_
        refine Run.lload K at_258 (pc' := 260) rfl rfl ?_
        refine Run.lload K at_260 (pc' := 262) rfl rfl ?_
        refine Run.lload K at_262 (pc' := 264) rfl rfl ?_
        refine Run.lload K at_264 (pc' := 266) rfl rfl ?_
        refine Run.callS K at_266 (pc' := 269) rfl (hw _ (List.mem_of_getElem? (i := 17) rfl)) (hw _ (List.mem_of_getElem? (i := 18) rfl)) (hw _ (List.mem_of_getElem? (i := 19) rfl)) (hw _ (List.mem_of_getElem? (i := 20) rfl)) (by decide) (cnt_4 l Z a0 n0 hw [] (c293) ((4 : Int32)) (c212) (c293) (c222) (c218) ([]) ([(r291, .long, [(.long c212), (.long c293), (.long c222), (.long c218)])]) (rfl)) (argsL := [(.long c293), (.int (4 : Int32)), (.long c212), (.long c293), (.long c222), (.long c218)]) (rest := [(.long (100 : Int64))]) rfl rfl pd_1 rfl (W := 2) rfl (by decide) (by decide) (cells' := 1) (slots' := 4) rfl rfl (by decide) (by decide) ?_
        intro vq Dq hq
        obtain ⟨c307, hc308, rfl, rfl⟩ := hq
        refine Run.as2 (D' := ([], [(r291, .long, [(.long c212), (.long c293), (.long c222), (.long c218)])])) (S' := [(.long c307), (.long (100 : Int64))]) rfl rfl ?_
        refine Run.lmul K at_269 (pc' := 270) rfl ?_
        refine Run.lload K at_270 (pc' := 272) rfl rfl ?_
        refine Run.lcmp K at_272 (pc' := 273) rfl ?_
        refine Run.ifLF K at_273 (pT := 280) (pF := 276) (by decide) (by decide) rfl (show ¬ (((100 : Int64) * c307) < (((Int32.ofNat q224).toInt64) * (4 : Int64))) from own_en_4_1 hs hr hp226 hc308) ?_
        refine Run.iconst K at_276 (pc' := 277) rfl (v := (1 : Int32)) rfl ?_
        refine Run.goto K at_277 (pc' := 281) (by decide) (by decide) ?_
        refine Run.istore K at_281 (pc' := 283) rfl (L' := #[.val (.long p1), .second, .val (.long p2), .second, .val (.long p3), .second, .val (.long p4), .second, .val (.int p5), .val (.int p6), .val (.int (4 : Int32)), .val (.int (Int32.ofNat q224)), .val (.long c204), .second, .val (.long c206), .second, .val (.long c208), .second, .val (.long c210), .second, .val (.long c212), .second, .val (.long c214), .second, .val (.long c216), .second, .val (.long c218), .second, .val (.long c293), .second, .val (.long c222), .second, .val (.ref r291), .val (.long c293), .second, .val (.long (((Int32.ofNat q224).toInt64) * (4 : Int64))), .second, .val (.int (1 : Int32)), .val (.int (1 : Int32)), .unset]) rfl ?_
        refine Run.lload K at_283 (pc' := 285) rfl rfl ?_
        refine Run.lload K at_285 (pc' := 287) rfl rfl ?_
        refine Run.iload K at_287 (pc' := 289) rfl rfl ?_
        refine Run.lload K at_289 (pc' := 291) rfl rfl ?_
        refine Run.lload K at_291 (pc' := 293) rfl rfl ?_
        refine Run.lload K at_293 (pc' := 295) rfl rfl ?_
        refine Run.lload K at_295 (pc' := 297) rfl rfl ?_
        refine Run.lload K at_297 (pc' := 299) rfl rfl ?_
        refine Run.callS K at_299 (pc' := 302) rfl (hw _ (List.mem_of_getElem? (i := 21) rfl)) (hw _ (List.mem_of_getElem? (i := 22) rfl)) (hw _ (List.mem_of_getElem? (i := 19) rfl)) (hw _ (List.mem_of_getElem? (i := 23) rfl)) (by decide) (fi_4 l Z a0 n0 hw [] (c212) (c293) ((4 : Int32)) ((((Int32.ofNat q224).toInt64) * (4 : Int64))) (c212) (c293) (c222) (c218) ([]) ([(r291, .long, [(.long c212), (.long c293), (.long c222), (.long c218)])]) (rfl)) (argsL := [(.long c212), (.long c293), (.int (4 : Int32)), (.long (((Int32.ofNat q224).toInt64) * (4 : Int64))), (.long c212), (.long c293), (.long c222), (.long c218)]) (rest := []) rfl rfl pd_3 rfl (W := 0) rfl (by decide) (by decide) (cells' := 1) (slots' := 4) rfl rfl (by decide) (by decide) ?_
        intro vq Dq hq
        obtain ⟨c309, hc310, rfl, rfl⟩ := hq
        refine Run.as2 (D' := ([], [(r291, .long, [(.long c212), (.long c293), (.long c222), (.long c218)])])) (S' := [(.int c309)]) rfl rfl ?_
        refine Run.ifcF K at_302 (pT := 393) (pF := 305) (by decide) (by decide) rfl (show ¬ (c309 = (0 : Int32)) from own_fi_4_1_0 hs hr hp226 hc310) ?_
        refine Run.iload K at_305 (pc' := 307) rfl rfl ?_
        refine Run.iconst K at_307 (pc' := 308) rfl (v := (1 : Int32)) rfl ?_
        refine Run.icmpF K at_308 (pT := 333) (pF := 311) (by decide) (by decide) rfl (show ¬ ((4 : Int32) ≤ (1 : Int32)) from by decide) ?_
        refine Run.lload K at_311 (pc' := 313) rfl rfl ?_
        refine Run.lload K at_313 (pc' := 315) rfl rfl ?_
        refine Run.iload K at_315 (pc' := 317) rfl rfl ?_
        refine Run.lload K at_317 (pc' := 319) rfl rfl ?_
        refine Run.lload K at_319 (pc' := 321) rfl rfl ?_
        refine Run.lload K at_321 (pc' := 323) rfl rfl ?_
        refine Run.lload K at_323 (pc' := 325) rfl rfl ?_
        refine Run.lload K at_325 (pc' := 327) rfl rfl ?_
        refine Run.callS K at_327 (pc' := 330) rfl (hw _ (List.mem_of_getElem? (i := 21) rfl)) (hw _ (List.mem_of_getElem? (i := 22) rfl)) (hw _ (List.mem_of_getElem? (i := 19) rfl)) (hw _ (List.mem_of_getElem? (i := 23) rfl)) (by decide) (fi_4 l Z a0 n0 hw [] (c293) (c293) ((4 : Int32)) ((((Int32.ofNat q224).toInt64) * (4 : Int64))) (c212) (c293) (c222) (c218) ([]) ([(r291, .long, [(.long c212), (.long c293), (.long c222), (.long c218)])]) (rfl)) (argsL := [(.long c293), (.long c293), (.int (4 : Int32)), (.long (((Int32.ofNat q224).toInt64) * (4 : Int64))), (.long c212), (.long c293), (.long c222), (.long c218)]) (rest := []) rfl rfl pd_3 rfl (W := 0) rfl (by decide) (by decide) (cells' := 1) (slots' := 4) rfl rfl (by decide) (by decide) ?_
        intro vq Dq hq
        obtain ⟨c311, hc312, rfl, rfl⟩ := hq
        refine Run.as2 (D' := ([], [(r291, .long, [(.long c212), (.long c293), (.long c222), (.long c218)])])) (S' := [(.int c311)]) rfl rfl ?_
        refine Run.ifcF K at_330 (pT := 393) (pF := 333) (by decide) (by decide) rfl (show ¬ (c311 = (0 : Int32)) from own_fi_4_1_1 hs hr hp226 hc312) ?_
        refine Run.iload K at_333 (pc' := 335) rfl rfl ?_
        refine Run.iconst K at_335 (pc' := 336) rfl (v := (2 : Int32)) rfl ?_
        refine Run.icmpF K at_336 (pT := 361) (pF := 339) (by decide) (by decide) rfl (show ¬ ((4 : Int32) ≤ (2 : Int32)) from by decide) ?_
        refine Run.lload K at_339 (pc' := 341) rfl rfl ?_
        refine Run.lload K at_341 (pc' := 343) rfl rfl ?_
        refine Run.iload K at_343 (pc' := 345) rfl rfl ?_
        refine Run.lload K at_345 (pc' := 347) rfl rfl ?_
        refine Run.lload K at_347 (pc' := 349) rfl rfl ?_
        refine Run.lload K at_349 (pc' := 351) rfl rfl ?_
        refine Run.lload K at_351 (pc' := 353) rfl rfl ?_
        refine Run.lload K at_353 (pc' := 355) rfl rfl ?_
        refine Run.callS K at_355 (pc' := 358) rfl (hw _ (List.mem_of_getElem? (i := 21) rfl)) (hw _ (List.mem_of_getElem? (i := 22) rfl)) (hw _ (List.mem_of_getElem? (i := 19) rfl)) (hw _ (List.mem_of_getElem? (i := 23) rfl)) (by decide) (fi_4 l Z a0 n0 hw [] (c222) (c293) ((4 : Int32)) ((((Int32.ofNat q224).toInt64) * (4 : Int64))) (c212) (c293) (c222) (c218) ([]) ([(r291, .long, [(.long c212), (.long c293), (.long c222), (.long c218)])]) (rfl)) (argsL := [(.long c222), (.long c293), (.int (4 : Int32)), (.long (((Int32.ofNat q224).toInt64) * (4 : Int64))), (.long c212), (.long c293), (.long c222), (.long c218)]) (rest := []) rfl rfl pd_3 rfl (W := 0) rfl (by decide) (by decide) (cells' := 1) (slots' := 4) rfl rfl (by decide) (by decide) ?_
        intro vq Dq hq
        obtain ⟨c313, hc314, rfl, rfl⟩ := hq
        refine Run.as2 (D' := ([], [(r291, .long, [(.long c212), (.long c293), (.long c222), (.long c218)])])) (S' := [(.int c313)]) rfl rfl ?_
        refine Run.ifcF K at_358 (pT := 393) (pF := 361) (by decide) (by decide) rfl (show ¬ (c313 = (0 : Int32)) from own_fi_4_1_2 hs hr hp226 hc314) ?_
        refine Run.iload K at_361 (pc' := 363) rfl rfl ?_
        refine Run.iconst K at_363 (pc' := 364) rfl (v := (3 : Int32)) rfl ?_
        refine Run.icmpF K at_364 (pT := 389) (pF := 367) (by decide) (by decide) rfl (show ¬ ((4 : Int32) ≤ (3 : Int32)) from by decide) ?_
        refine Run.lload K at_367 (pc' := 369) rfl rfl ?_
        refine Run.lload K at_369 (pc' := 371) rfl rfl ?_
        refine Run.iload K at_371 (pc' := 373) rfl rfl ?_
        refine Run.lload K at_373 (pc' := 375) rfl rfl ?_
        refine Run.lload K at_375 (pc' := 377) rfl rfl ?_
        refine Run.lload K at_377 (pc' := 379) rfl rfl ?_
        refine Run.lload K at_379 (pc' := 381) rfl rfl ?_
        refine Run.lload K at_381 (pc' := 383) rfl rfl ?_
        refine Run.callS K at_383 (pc' := 386) rfl (hw _ (List.mem_of_getElem? (i := 21) rfl)) (hw _ (List.mem_of_getElem? (i := 22) rfl)) (hw _ (List.mem_of_getElem? (i := 19) rfl)) (hw _ (List.mem_of_getElem? (i := 23) rfl)) (by decide) (fi_4 l Z a0 n0 hw [] (c218) (c293) ((4 : Int32)) ((((Int32.ofNat q224).toInt64) * (4 : Int64))) (c212) (c293) (c222) (c218) ([]) ([(r291, .long, [(.long c212), (.long c293), (.long c222), (.long c218)])]) (rfl)) (argsL := [(.long c218), (.long c293), (.int (4 : Int32)), (.long (((Int32.ofNat q224).toInt64) * (4 : Int64))), (.long c212), (.long c293), (.long c222), (.long c218)]) (rest := []) rfl rfl pd_3 rfl (W := 0) rfl (by decide) (by decide) (cells' := 1) (slots' := 4) rfl rfl (by decide) (by decide) ?_
        intro vq Dq hq
        obtain ⟨c315, hc316, rfl, rfl⟩ := hq
        refine Run.as2 (D' := ([], [(r291, .long, [(.long c212), (.long c293), (.long c222), (.long c218)])])) (S' := [(.int c315)]) rfl rfl ?_
        refine Run.ifcF K at_386 (pT := 393) (pF := 389) (by decide) (by decide) rfl (show ¬ (c315 = (0 : Int32)) from own_fi_4_1_3 hs hr hp226 hc316) ?_
        refine Run.iconst K at_389 (pc' := 390) rfl (v := (1 : Int32)) rfl ?_
        refine Run.goto K at_390 (pc' := 394) (by decide) (by decide) ?_
        refine Run.istore K at_394 (pc' := 396) rfl (L' := #[.val (.long p1), .second, .val (.long p2), .second, .val (.long p3), .second, .val (.long p4), .second, .val (.int p5), .val (.int p6), .val (.int (4 : Int32)), .val (.int (Int32.ofNat q224)), .val (.long c204), .second, .val (.long c206), .second, .val (.long c208), .second, .val (.long c210), .second, .val (.long c212), .second, .val (.long c214), .second, .val (.long c216), .second, .val (.long c218), .second, .val (.long c293), .second, .val (.long c222), .second, .val (.ref r291), .val (.long c293), .second, .val (.long (((Int32.ofNat q224).toInt64) * (4 : Int64))), .second, .val (.int (1 : Int32)), .val (.int (1 : Int32)), .val (.int (1 : Int32))]) rfl ?_
        refine Run.iload K at_396 (pc' := 398) rfl rfl ?_
        refine Run.ifcF K at_398 (pT := 415) (pF := 401) (by decide) (by decide) rfl (show ¬ ((1 : Int32) = (0 : Int32)) from by decide) ?_
        refine Run.iload K at_401 (pc' := 403) rfl rfl ?_
        refine Run.ifcF K at_403 (pT := 415) (pF := 406) (by decide) (by decide) rfl (show ¬ ((1 : Int32) = (0 : Int32)) from by decide) ?_
        refine Run.iload K at_406 (pc' := 408) rfl rfl ?_
        refine Run.ifcF K at_408 (pT := 415) (pF := 411) (by decide) (by decide) rfl (show ¬ ((1 : Int32) = (0 : Int32)) from by decide) ?_
        refine Run.iconst K at_411 (pc' := 412) rfl (v := (1 : Int32)) rfl ?_
        refine Run.goto K at_412 (pc' := 416) (by decide) (by decide) ?_
        exact Run.retN K at_416 (w := (1 : Int32)) rfl (by decide) (by decide) (by decide) (by decide) rfl
      · skip
        refine Run.ifL K at_199 (pT := 244) (pF := 202) (by decide) (by decide) rfl (fun (h199_316 : c212 = c293) => ?_) (fun (h199_316 : ¬ (c212 = c293)) => ?_)
        · skip
          refine Run.iconst K at_244 (pc' := 245) rfl (v := (1 : Int32)) rfl ?_
          refine Run.goto K at_245 (pc' := 249) (by decide) (by decide) ?_
          exact J199
        · skip
          refine Run.iload K at_202 (pc' := 204) rfl rfl ?_
          refine Run.iconst K at_204 (pc' := 205) rfl (v := (1 : Int32)) rfl ?_
          refine Run.icmpF K at_205 (pT := 216) (pF := 208) (by decide) (by decide) rfl (show ¬ ((4 : Int32) ≤ (1 : Int32)) from by decide) ?_
          refine Run.lload K at_208 (pc' := 210) rfl rfl ?_
          refine Run.lload K at_210 (pc' := 212) rfl rfl ?_
          refine Run.lcmp K at_212 (pc' := 213) rfl ?_
          refine Run.ifLT K at_213 (pT := 244) (pF := 216) (by decide) (by decide) rfl (show c293 = c293 from rfl) ?_
          refine Run.iconst K at_244 (pc' := 245) rfl (v := (1 : Int32)) rfl ?_
          refine Run.goto K at_245 (pc' := 249) (by decide) (by decide) ?_
          exact J199
    · skip
      have hr := own_rk4 (k := 2) hcc hk hp226
      refine Run.lstore K at_165 (pc' := 167) rfl (L' := #[.val (.long p1), .second, .val (.long p2), .second, .val (.long p3), .second, .val (.long p4), .second, .val (.int p5), .val (.int p6), .val (.int (4 : Int32)), .val (.int (Int32.ofNat q224)), .val (.long c204), .second, .val (.long c206), .second, .val (.long c208), .second, .val (.long c210), .second, .val (.long c212), .second, .val (.long c214), .second, .val (.long c216), .second, .val (.long c218), .second, .val (.long c220), .second, .val (.long c293), .second, .val (.ref r291), .val (.long c293), .second, .unset, .unset, .unset, .unset, .unset]) rfl ?_
      refine Run.iload K at_167 (pc' := 169) rfl rfl ?_
      refine Run.ifcT K at_169 (pT := 185) (pF := 172) (by decide) (by decide) rfl (show (4 : Int32) ≠ (0 : Int32) from by decide) ?_
      refine Run.iload K at_185 (pc' := 187) rfl rfl ?_
      refine Run.i2l K at_187 (pc' := 188) rfl ?_
      refine Run.iload K at_188 (pc' := 190) rfl rfl ?_
      refine Run.i2lV K at_190 (pc' := 191) rfl (v := (4 : Int64)) (by decide) ?_
      refine Run.lmul K at_191 (pc' := 192) rfl ?_
      refine Run.lstore K at_192 (pc' := 194) rfl (L' := #[.val (.long p1), .second, .val (.long p2), .second, .val (.long p3), .second, .val (.long p4), .second, .val (.int p5), .val (.int p6), .val (.int (4 : Int32)), .val (.int (Int32.ofNat q224)), .val (.long c204), .second, .val (.long c206), .second, .val (.long c208), .second, .val (.long c210), .second, .val (.long c212), .second, .val (.long c214), .second, .val (.long c216), .second, .val (.long c218), .second, .val (.long c220), .second, .val (.long c293), .second, .val (.ref r291), .val (.long c293), .second, .val (.long (((Int32.ofNat q224).toInt64) * (4 : Int64))), .second, .unset, .unset, .unset]) rfl ?_
      refine Run.lload K at_194 (pc' := 196) rfl rfl ?_
      refine Run.lload K at_196 (pc' := 198) rfl rfl ?_
      refine Run.lcmp K at_198 (pc' := 199) rfl ?_
      refine Run.join0 (D' := ([], [(r291, .long, [(.long c212), (.long c220), (.long c293), (.long c218)])])) (cells' := 1) (slots' := 4) (pc' := 249) (L' := #[.val (.long p1), .second, .val (.long p2), .second, .val (.long p3), .second, .val (.long p4), .second, .val (.int p5), .val (.int p6), .val (.int (4 : Int32)), .val (.int (Int32.ofNat q224)), .val (.long c204), .second, .val (.long c206), .second, .val (.long c208), .second, .val (.long c210), .second, .val (.long c212), .second, .val (.long c214), .second, .val (.long c216), .second, .val (.long c218), .second, .val (.long c220), .second, .val (.long c293), .second, .val (.ref r291), .val (.long c293), .second, .val (.long (((Int32.ofNat q224).toInt64) * (4 : Int64))), .second, .unset, .unset, .unset]) (S' := [(.int (1 : Int32))]) ?_ (fun J199 => ?_)
      · skip
        refine Run.istore K at_249 (pc' := 251) rfl (L' := #[.val (.long p1), .second, .val (.long p2), .second, .val (.long p3), .second, .val (.long p4), .second, .val (.int p5), .val (.int p6), .val (.int (4 : Int32)), .val (.int (Int32.ofNat q224)), .val (.long c204), .second, .val (.long c206), .second, .val (.long c208), .second, .val (.long c210), .second, .val (.long c212), .second, .val (.long c214), .second, .val (.long c216), .second, .val (.long c218), .second, .val (.long c220), .second, .val (.long c293), .second, .val (.ref r291), .val (.long c293), .second, .val (.long (((Int32.ofNat q224).toInt64) * (4 : Int64))), .second, .val (.int (1 : Int32)), .unset, .unset]) rfl ?_
        refine Run.ldcJ K at_251 (pc' := 254) rfl (v := (100 : Int64)) (hw _ (List.mem_of_getElem? (i := 16) rfl)) ?_
        refine Run.lload K at_254 (pc' := 256) rfl rfl ?_
        refine Run.iload K at_256 (pc' := 258) rfl rfl ?_
        refine Run.lload K at_258 (pc' := 260) rfl rfl ?_
        refine Run.lload K at_260 (pc' := 262) rfl rfl ?_
        refine Run.lload K at_262 (pc' := 264) rfl rfl ?_
        refine Run.lload K at_264 (pc' := 266) rfl rfl ?_
        refine Run.callS K at_266 (pc' := 269) rfl (hw _ (List.mem_of_getElem? (i := 17) rfl)) (hw _ (List.mem_of_getElem? (i := 18) rfl)) (hw _ (List.mem_of_getElem? (i := 19) rfl)) (hw _ (List.mem_of_getElem? (i := 20) rfl)) (by decide) (cnt_4 l Z a0 n0 hw [] (c293) ((4 : Int32)) (c212) (c220) (c293) (c218) ([]) ([(r291, .long, [(.long c212), (.long c220), (.long c293), (.long c218)])]) (rfl)) (argsL := [(.long c293), (.int (4 : Int32)), (.long c212), (.long c220), (.long c293), (.long c218)]) (rest := [(.long (100 : Int64))]) rfl rfl pd_1 rfl (W := 2) rfl (by decide) (by decide) (cells' := 1) (slots' := 4) rfl rfl (by decide) (by decide) ?_
        intro vq Dq hq
        obtain ⟨c321, hc322, rfl, rfl⟩ := hq
        refine Run.as2 (D' := ([], [(r291, .long, [(.long c212), (.long c220), (.long c293), (.long c218)])])) (S' := [(.long c321), (.long (100 : Int64))]) rfl rfl ?_
        refine Run.lmul K at_269 (pc' := 270) rfl ?_
        refine Run.lload K at_270 (pc' := 272) rfl rfl ?_
        refine Run.lcmp K at_272 (pc' := 273) rfl ?_
        refine Run.ifLF K at_273 (pT := 280) (pF := 276) (by decide) (by decide) rfl (show ¬ (((100 : Int64) * c321) < (((Int32.ofNat q224).toInt64) * (4 : Int64))) from own_en_4_2 hs hr hp226 hc322) ?_
        refine Run.iconst K at_276 (pc' := 277) rfl (v := (1 : Int32)) rfl ?_
        refine Run.goto K at_277 (pc' := 281) (by decide) (by decide) ?_
        refine Run.istore K at_281 (pc' := 283) rfl (L' := #[.val (.long p1), .second, .val (.long p2), .second, .val (.long p3), .second, .val (.long p4), .second, .val (.int p5), .val (.int p6), .val (.int (4 : Int32)), .val (.int (Int32.ofNat q224)), .val (.long c204), .second, .val (.long c206), .second, .val (.long c208), .second, .val (.long c210), .second, .val (.long c212), .second, .val (.long c214), .second, .val (.long c216), .second, .val (.long c218), .second, .val (.long c220), .second, .val (.long c293), .second, .val (.ref r291), .val (.long c293), .second, .val (.long (((Int32.ofNat q224).toInt64) * (4 : Int64))), .second, .val (.int (1 : Int32)), .val (.int (1 : Int32)), .unset]) rfl ?_
        refine Run.lload K at_283 (pc' := 285) rfl rfl ?_
        refine Run.lload K at_285 (pc' := 287) rfl rfl ?_
        refine Run.iload K at_287 (pc' := 289) rfl rfl ?_
        refine Run.lload K at_289 (pc' := 291) rfl rfl ?_
        refine Run.lload K at_291 (pc' := 293) rfl rfl ?_
        refine Run.lload K at_293 (pc' := 295) rfl rfl ?_
        refine Run.lload K at_295 (pc' := 297) rfl rfl ?_
        refine Run.lload K at_297 (pc' := 299) rfl rfl ?_
        refine Run.callS K at_299 (pc' := 302) rfl (hw _ (List.mem_of_getElem? (i := 21) rfl)) (hw _ (List.mem_of_getElem? (i := 22) rfl)) (hw _ (List.mem_of_getElem? (i := 19) rfl)) (hw _ (List.mem_of_getElem? (i := 23) rfl)) (by decide) (fi_4 l Z a0 n0 hw [] (c212) (c293) ((4 : Int32)) ((((Int32.ofNat q224).toInt64) * (4 : Int64))) (c212) (c220) (c293) (c218) ([]) ([(r291, .long, [(.long c212), (.long c220), (.long c293), (.long c218)])]) (rfl)) (argsL := [(.long c212), (.long c293), (.int (4 : Int32)), (.long (((Int32.ofNat q224).toInt64) * (4 : Int64))), (.long c212), (.long c220), (.long c293), (.long c218)]) (rest := []) rfl rfl pd_3 rfl (W := 0) rfl (by decide) (by decide) (cells' := 1) (slots' := 4) rfl rfl (by decide) (by decide) ?_
        intro vq Dq hq
        obtain ⟨c323, hc324, rfl, rfl⟩ := hq
        refine Run.as2 (D' := ([], [(r291, .long, [(.long c212), (.long c220), (.long c293), (.long c218)])])) (S' := [(.int c323)]) rfl rfl ?_
        refine Run.ifcF K at_302 (pT := 393) (pF := 305) (by decide) (by decide) rfl (show ¬ (c323 = (0 : Int32)) from own_fi_4_2_0 hs hr hp226 hc324) ?_
        refine Run.iload K at_305 (pc' := 307) rfl rfl ?_
        refine Run.iconst K at_307 (pc' := 308) rfl (v := (1 : Int32)) rfl ?_
        refine Run.icmpF K at_308 (pT := 333) (pF := 311) (by decide) (by decide) rfl (show ¬ ((4 : Int32) ≤ (1 : Int32)) from by decide) ?_
        refine Run.lload K at_311 (pc' := 313) rfl rfl ?_
        refine Run.lload K at_313 (pc' := 315) rfl rfl ?_
        refine Run.iload K at_315 (pc' := 317) rfl rfl ?_
        refine Run.lload K at_317 (pc' := 319) rfl rfl ?_
        refine Run.lload K at_319 (pc' := 321) rfl rfl ?_
        refine Run.lload K at_321 (pc' := 323) rfl rfl ?_
        refine Run.lload K at_323 (pc' := 325) rfl rfl ?_
        refine Run.lload K at_325 (pc' := 327) rfl rfl ?_
        refine Run.callS K at_327 (pc' := 330) rfl (hw _ (List.mem_of_getElem? (i := 21) rfl)) (hw _ (List.mem_of_getElem? (i := 22) rfl)) (hw _ (List.mem_of_getElem? (i := 19) rfl)) (hw _ (List.mem_of_getElem? (i := 23) rfl)) (by decide) (fi_4 l Z a0 n0 hw [] (c220) (c293) ((4 : Int32)) ((((Int32.ofNat q224).toInt64) * (4 : Int64))) (c212) (c220) (c293) (c218) ([]) ([(r291, .long, [(.long c212), (.long c220), (.long c293), (.long c218)])]) (rfl)) (argsL := [(.long c220), (.long c293), (.int (4 : Int32)), (.long (((Int32.ofNat q224).toInt64) * (4 : Int64))), (.long c212), (.long c220), (.long c293), (.long c218)]) (rest := []) rfl rfl pd_3 rfl (W := 0) rfl (by decide) (by decide) (cells' := 1) (slots' := 4) rfl rfl (by decide) (by decide) ?_
        intro vq Dq hq
        obtain ⟨c325, hc326, rfl, rfl⟩ := hq
        refine Run.as2 (D' := ([], [(r291, .long, [(.long c212), (.long c220), (.long c293), (.long c218)])])) (S' := [(.int c325)]) rfl rfl ?_
        refine Run.ifcF K at_330 (pT := 393) (pF := 333) (by decide) (by decide) rfl (show ¬ (c325 = (0 : Int32)) from own_fi_4_2_1 hs hr hp226 hc326) ?_
        refine Run.iload K at_333 (pc' := 335) rfl rfl ?_
        refine Run.iconst K at_335 (pc' := 336) rfl (v := (2 : Int32)) rfl ?_
        refine Run.icmpF K at_336 (pT := 361) (pF := 339) (by decide) (by decide) rfl (show ¬ ((4 : Int32) ≤ (2 : Int32)) from by decide) ?_
        refine Run.lload K at_339 (pc' := 341) rfl rfl ?_
        refine Run.lload K at_341 (pc' := 343) rfl rfl ?_
        refine Run.iload K at_343 (pc' := 345) rfl rfl ?_
        refine Run.lload K at_345 (pc' := 347) rfl rfl ?_
        refine Run.lload K at_347 (pc' := 349) rfl rfl ?_
        refine Run.lload K at_349 (pc' := 351) rfl rfl ?_
        refine Run.lload K at_351 (pc' := 353) rfl rfl ?_
        refine Run.lload K at_353 (pc' := 355) rfl rfl ?_
        refine Run.callS K at_355 (pc' := 358) rfl (hw _ (List.mem_of_getElem? (i := 21) rfl)) (hw _ (List.mem_of_getElem? (i := 22) rfl)) (hw _ (List.mem_of_getElem? (i := 19) rfl)) (hw _ (List.mem_of_getElem? (i := 23) rfl)) (by decide) (fi_4 l Z a0 n0 hw [] (c293) (c293) ((4 : Int32)) ((((Int32.ofNat q224).toInt64) * (4 : Int64))) (c212) (c220) (c293) (c218) ([]) ([(r291, .long, [(.long c212), (.long c220), (.long c293), (.long c218)])]) (rfl)) (argsL := [(.long c293), (.long c293), (.int (4 : Int32)), (.long (((Int32.ofNat q224).toInt64) * (4 : Int64))), (.long c212), (.long c220), (.long c293), (.long c218)]) (rest := []) rfl rfl pd_3 rfl (W := 0) rfl (by decide) (by decide) (cells' := 1) (slots' := 4) rfl rfl (by decide) (by decide) ?_
        intro vq Dq hq
        obtain ⟨c327, hc328, rfl, rfl⟩ := hq
        refine Run.as2 (D' := ([], [(r291, .long, [(.long c212), (.long c220), (.long c293), (.long c218)])])) (S' := [(.int c327)]) rfl rfl ?_
        refine Run.ifcF K at_358 (pT := 393) (pF := 361) (by decide) (by decide) rfl (show ¬ (c327 = (0 : Int32)) from own_fi_4_2_2 hs hr hp226 hc328) ?_
        refine Run.iload K at_361 (pc' := 363) rfl rfl ?_
        refine Run.iconst K at_363 (pc' := 364) rfl (v := (3 : Int32)) rfl ?_
        refine Run.icmpF K at_364 (pT := 389) (pF := 367) (by decide) (by decide) rfl (show ¬ ((4 : Int32) ≤ (3 : Int32)) from by decide) ?_
        refine Run.lload K at_367 (pc' := 369) rfl rfl ?_
        refine Run.lload K at_369 (pc' := 371) rfl rfl ?_
        refine Run.iload K at_371 (pc' := 373) rfl rfl ?_
        refine Run.lload K at_373 (pc' := 375) rfl rfl ?_
        refine Run.lload K at_375 (pc' := 377) rfl rfl ?_
        refine Run.lload K at_377 (pc' := 379) rfl rfl ?_
        refine Run.lload K at_379 (pc' := 381) rfl rfl ?_
        refine Run.lload K at_381 (pc' := 383) rfl rfl ?_
        refine Run.callS K at_383 (pc' := 386) rfl (hw _ (List.mem_of_getElem? (i := 21) rfl)) (hw _ (List.mem_of_getElem? (i := 22) rfl)) (hw _ (List.mem_of_getElem? (i := 19) rfl)) (hw _ (List.mem_of_getElem? (i := 23) rfl)) (by decide) (fi_4 l Z a0 n0 hw [] (c218) (c293) ((4 : Int32)) ((((Int32.ofNat q224).toInt64) * (4 : Int64))) (c212) (c220) (c293) (c218) ([]) ([(r291, .long, [(.long c212), (.long c220), (.long c293), (.long c218)])]) (rfl)) (argsL := [(.long c218), (.long c293), (.int (4 : Int32)), (.long (((Int32.ofNat q224).toInt64) * (4 : Int64))), (.long c212), (.long c220), (.long c293), (.long c218)]) (rest := []) rfl rfl pd_3 rfl (W := 0) rfl (by decide) (by decide) (cells' := 1) (slots' := 4) rfl rfl (by decide) (by decide) ?_
        intro vq Dq hq
        obtain ⟨c329, hc330, rfl, rfl⟩ := hq
        refine Run.as2 (D' := ([], [(r291, .long, [(.long c212), (.long c220), (.long c293), (.long c218)])])) (S' := [(.int c329)]) rfl rfl ?_
        refine Run.ifcF K at_386 (pT := 393) (pF := 389) (by decide) (by decide) rfl (show ¬ (c329 = (0 : Int32)) from own_fi_4_2_3 hs hr hp226 hc330) ?_
        refine Run.iconst K at_389 (pc' := 390) rfl (v := (1 : Int32)) rfl ?_
        refine Run.goto K at_390 (pc' := 394) (by decide) (by decide) ?_
        refine Run.istore K at_394 (pc' := 396) rfl (L' := #[.val (.long p1), .second, .val (.long p2), .second, .val (.long p3), .second, .val (.long p4), .second, .val (.int p5), .val (.int p6), .val (.int (4 : Int32)), .val (.int (Int32.ofNat q224)), .val (.long c204), .second, .val (.long c206), .second, .val (.long c208), .second, .val (.long c210), .second, .val (.long c212), .second, .val (.long c214), .second, .val (.long c216), .second, .val (.long c218), .second, .val (.long c220), .second, .val (.long c293), .second, .val (.ref r291), .val (.long c293), .second, .val (.long (((Int32.ofNat q224).toInt64) * (4 : Int64))), .second, .val (.int (1 : Int32)), .val (.int (1 : Int32)), .val (.int (1 : Int32))]) rfl ?_
        refine Run.iload K at_396 (pc' := 398) rfl rfl ?_
        refine Run.ifcF K at_398 (pT := 415) (pF := 401) (by decide) (by decide) rfl (show ¬ ((1 : Int32) = (0 : Int32)) from by decide) ?_
        refine Run.iload K at_401 (pc' := 403) rfl rfl ?_
        refine Run.ifcF K at_403 (pT := 415) (pF := 406) (by decide) (by decide) rfl (show ¬ ((1 : Int32) = (0 : Int32)) from by decide) ?_
        refine Run.iload K at_406 (pc' := 408) rfl rfl ?_
        refine Run.ifcF K at_408 (pT := 415) (pF := 411) (by decide) (by decide) rfl (show ¬ ((1 : Int32) = (0 : Int32)) from by decide) ?_
        refine Run.iconst K at_411 (pc' := 412) rfl (v := (1 : Int32)) rfl ?_
        refine Run.goto K at_412 (pc' := 416) (by decide) (by decide) ?_
        exact Run.retN K at_416 (w := (1 : Int32)) rfl (by decide) (by decide) (by decide) (by decide) rfl
      · skip
        refine Run.ifL K at_199 (pT := 244) (pF := 202) (by decide) (by decide) rfl (fun (h199_330 : c212 = c293) => ?_) (fun (h199_330 : ¬ (c212 = c293)) => ?_)
        · skip
          refine Run.iconst K at_244 (pc' := 245) rfl (v := (1 : Int32)) rfl ?_
          refine Run.goto K at_245 (pc' := 249) (by decide) (by decide) ?_
          exact J199
        · skip
          refine Run.iload K at_202 (pc' := 204) rfl rfl ?_
          refine Run.iconst K at_204 (pc' := 205) rfl (v := (1 : Int32)) rfl ?_
          refine Run.icmpF K at_205 (pT := 216) (pF := 208) (by decide) (by decide) rfl (show ¬ ((4 : Int32) ≤ (1 : Int32)) from by decide) ?_
          refine Run.lload K at_208 (pc' := 210) rfl rfl ?_
          refine Run.lload K at_210 (pc' := 212) rfl rfl ?_
          refine Run.lcmp K at_212 (pc' := 213) rfl ?_
          refine Run.ifL K at_213 (pT := 244) (pF := 216) (by decide) (by decide) rfl (fun (h213_331 : c220 = c293) => ?_) (fun (h213_331 : ¬ (c220 = c293)) => ?_)
          · skip
            refine Run.iconst K at_244 (pc' := 245) rfl (v := (1 : Int32)) rfl ?_
            refine Run.goto K at_245 (pc' := 249) (by decide) (by decide) ?_
            exact J199
          · skip
            refine Run.iload K at_216 (pc' := 218) rfl rfl ?_
            refine Run.iconst K at_218 (pc' := 219) rfl (v := (2 : Int32)) rfl ?_
            refine Run.icmpF K at_219 (pT := 230) (pF := 222) (by decide) (by decide) rfl (show ¬ ((4 : Int32) ≤ (2 : Int32)) from by decide) ?_
            refine Run.lload K at_222 (pc' := 224) rfl rfl ?_
            refine Run.lload K at_224 (pc' := 226) rfl rfl ?_
            refine Run.lcmp K at_226 (pc' := 227) rfl ?_
            refine Run.ifLT K at_227 (pT := 244) (pF := 230) (by decide) (by decide) rfl (show c293 = c293 from rfl) ?_
            refine Run.iconst K at_244 (pc' := 245) rfl (v := (1 : Int32)) rfl ?_
            refine Run.goto K at_245 (pc' := 249) (by decide) (by decide) ?_
            exact J199
    · skip
      have hr := own_rk4 (k := 3) hcc hk hp226
      refine Run.lstore K at_165 (pc' := 167) rfl (L' := #[.val (.long p1), .second, .val (.long p2), .second, .val (.long p3), .second, .val (.long p4), .second, .val (.int p5), .val (.int p6), .val (.int (4 : Int32)), .val (.int (Int32.ofNat q224)), .val (.long c204), .second, .val (.long c206), .second, .val (.long c208), .second, .val (.long c210), .second, .val (.long c212), .second, .val (.long c214), .second, .val (.long c216), .second, .val (.long c293), .second, .val (.long c220), .second, .val (.long c222), .second, .val (.ref r291), .val (.long c293), .second, .unset, .unset, .unset, .unset, .unset]) rfl ?_
      refine Run.iload K at_167 (pc' := 169) rfl rfl ?_
      refine Run.ifcT K at_169 (pT := 185) (pF := 172) (by decide) (by decide) rfl (show (4 : Int32) ≠ (0 : Int32) from by decide) ?_
      refine Run.iload K at_185 (pc' := 187) rfl rfl ?_
      refine Run.i2l K at_187 (pc' := 188) rfl ?_
      refine Run.iload K at_188 (pc' := 190) rfl rfl ?_
      refine Run.i2lV K at_190 (pc' := 191) rfl (v := (4 : Int64)) (by decide) ?_
      refine Run.lmul K at_191 (pc' := 192) rfl ?_
      refine Run.lstore K at_192 (pc' := 194) rfl (L' := #[.val (.long p1), .second, .val (.long p2), .second, .val (.long p3), .second, .val (.long p4), .second, .val (.int p5), .val (.int p6), .val (.int (4 : Int32)), .val (.int (Int32.ofNat q224)), .val (.long c204), .second, .val (.long c206), .second, .val (.long c208), .second, .val (.long c210), .second, .val (.long c212), .second, .val (.long c214), .second, .val (.long c216), .second, .val (.long c293), .second, .val (.long c220), .second, .val (.long c222), .second, .val (.ref r291), .val (.long c293), .second, .val (.long (((Int32.ofNat q224).toInt64) * (4 : Int64))), .second, .unset, .unset, .unset]) rfl ?_
      refine Run.lload K at_194 (pc' := 196) rfl rfl ?_
      refine Run.lload K at_196 (pc' := 198) rfl rfl ?_
      refine Run.lcmp K at_198 (pc' := 199) rfl ?_
      refine Run.join0 (D' := ([], [(r291, .long, [(.long c212), (.long c220), (.long c222), (.long c293)])])) (cells' := 1) (slots' := 4) (pc' := 249) (L' := #[.val (.long p1), .second, .val (.long p2), .second, .val (.long p3), .second, .val (.long p4), .second, .val (.int p5), .val (.int p6), .val (.int (4 : Int32)), .val (.int (Int32.ofNat q224)), .val (.long c204), .second, .val (.long c206), .second, .val (.long c208), .second, .val (.long c210), .second, .val (.long c212), .second, .val (.long c214), .second, .val (.long c216), .second, .val (.long c293), .second, .val (.long c220), .second, .val (.long c222), .second, .val (.ref r291), .val (.long c293), .second, .val (.long (((Int32.ofNat q224).toInt64) * (4 : Int64))), .second, .unset, .unset, .unset]) (S' := [(.int (1 : Int32))]) ?_ (fun J199 => ?_)
      · skip
        refine Run.istore K at_249 (pc' := 251) rfl (L' := #[.val (.long p1), .second, .val (.long p2), .second, .val (.long p3), .second, .val (.long p4), .second, .val (.int p5), .val (.int p6), .val (.int (4 : Int32)), .val (.int (Int32.ofNat q224)), .val (.long c204), .second, .val (.long c206), .second, .val (.long c208), .second, .val (.long c210), .second, .val (.long c212), .second, .val (.long c214), .second, .val (.long c216), .second, .val (.long c293), .second, .val (.long c220), .second, .val (.long c222), .second, .val (.ref r291), .val (.long c293), .second, .val (.long (((Int32.ofNat q224).toInt64) * (4 : Int64))), .second, .val (.int (1 : Int32)), .unset, .unset]) rfl ?_
        refine Run.ldcJ K at_251 (pc' := 254) rfl (v := (100 : Int64)) (hw _ (List.mem_of_getElem? (i := 16) rfl)) ?_
        refine Run.lload K at_254 (pc' := 256) rfl rfl ?_
        refine Run.iload K at_256 (pc' := 258) rfl rfl ?_
        refine Run.lload K at_258 (pc' := 260) rfl rfl ?_
        refine Run.lload K at_260 (pc' := 262) rfl rfl ?_
        refine Run.lload K at_262 (pc' := 264) rfl rfl ?_
        refine Run.lload K at_264 (pc' := 266) rfl rfl ?_
        refine Run.callS K at_266 (pc' := 269) rfl (hw _ (List.mem_of_getElem? (i := 17) rfl)) (hw _ (List.mem_of_getElem? (i := 18) rfl)) (hw _ (List.mem_of_getElem? (i := 19) rfl)) (hw _ (List.mem_of_getElem? (i := 20) rfl)) (by decide) (cnt_4 l Z a0 n0 hw [] (c293) ((4 : Int32)) (c212) (c220) (c222) (c293) ([]) ([(r291, .long, [(.long c212), (.long c220), (.long c222), (.long c293)])]) (rfl)) (argsL := [(.long c293), (.int (4 : Int32)), (.long c212), (.long c220), (.long c222), (.long c293)]) (rest := [(.long (100 : Int64))]) rfl rfl pd_1 rfl (W := 2) rfl (by decide) (by decide) (cells' := 1) (slots' := 4) rfl rfl (by decide) (by decide) ?_
        intro vq Dq hq
        obtain ⟨c337, hc338, rfl, rfl⟩ := hq
        refine Run.as2 (D' := ([], [(r291, .long, [(.long c212), (.long c220), (.long c222), (.long c293)])])) (S' := [(.long c337), (.long (100 : Int64))]) rfl rfl ?_
        refine Run.lmul K at_269 (pc' := 270) rfl ?_
        refine Run.lload K at_270 (pc' := 272) rfl rfl ?_
        refine Run.lcmp K at_272 (pc' := 273) rfl ?_
        refine Run.ifLF K at_273 (pT := 280) (pF := 276) (by decide) (by decide) rfl (show ¬ (((100 : Int64) * c337) < (((Int32.ofNat q224).toInt64) * (4 : Int64))) from own_en_4_3 hs hr hp226 hc338) ?_
        refine Run.iconst K at_276 (pc' := 277) rfl (v := (1 : Int32)) rfl ?_
        refine Run.goto K at_277 (pc' := 281) (by decide) (by decide) ?_
        refine Run.istore K at_281 (pc' := 283) rfl (L' := #[.val (.long p1), .second, .val (.long p2), .second, .val (.long p3), .second, .val (.long p4), .second, .val (.int p5), .val (.int p6), .val (.int (4 : Int32)), .val (.int (Int32.ofNat q224)), .val (.long c204), .second, .val (.long c206), .second, .val (.long c208), .second, .val (.long c210), .second, .val (.long c212), .second, .val (.long c214), .second, .val (.long c216), .second, .val (.long c293), .second, .val (.long c220), .second, .val (.long c222), .second, .val (.ref r291), .val (.long c293), .second, .val (.long (((Int32.ofNat q224).toInt64) * (4 : Int64))), .second, .val (.int (1 : Int32)), .val (.int (1 : Int32)), .unset]) rfl ?_
        refine Run.lload K at_283 (pc' := 285) rfl rfl ?_
        refine Run.lload K at_285 (pc' := 287) rfl rfl ?_
        refine Run.iload K at_287 (pc' := 289) rfl rfl ?_
        refine Run.lload K at_289 (pc' := 291) rfl rfl ?_
        refine Run.lload K at_291 (pc' := 293) rfl rfl ?_
        refine Run.lload K at_293 (pc' := 295) rfl rfl ?_
        refine Run.lload K at_295 (pc' := 297) rfl rfl ?_
        refine Run.lload K at_297 (pc' := 299) rfl rfl ?_
        refine Run.callS K at_299 (pc' := 302) rfl (hw _ (List.mem_of_getElem? (i := 21) rfl)) (hw _ (List.mem_of_getElem? (i := 22) rfl)) (hw _ (List.mem_of_getElem? (i := 19) rfl)) (hw _ (List.mem_of_getElem? (i := 23) rfl)) (by decide) (fi_4 l Z a0 n0 hw [] (c212) (c293) ((4 : Int32)) ((((Int32.ofNat q224).toInt64) * (4 : Int64))) (c212) (c220) (c222) (c293) ([]) ([(r291, .long, [(.long c212), (.long c220), (.long c222), (.long c293)])]) (rfl)) (argsL := [(.long c212), (.long c293), (.int (4 : Int32)), (.long (((Int32.ofNat q224).toInt64) * (4 : Int64))), (.long c212), (.long c220), (.long c222), (.long c293)]) (rest := []) rfl rfl pd_3 rfl (W := 0) rfl (by decide) (by decide) (cells' := 1) (slots' := 4) rfl rfl (by decide) (by decide) ?_
        intro vq Dq hq
        obtain ⟨c339, hc340, rfl, rfl⟩ := hq
        refine Run.as2 (D' := ([], [(r291, .long, [(.long c212), (.long c220), (.long c222), (.long c293)])])) (S' := [(.int c339)]) rfl rfl ?_
        refine Run.ifcF K at_302 (pT := 393) (pF := 305) (by decide) (by decide) rfl (show ¬ (c339 = (0 : Int32)) from own_fi_4_3_0 hs hr hp226 hc340) ?_
        refine Run.iload K at_305 (pc' := 307) rfl rfl ?_
        refine Run.iconst K at_307 (pc' := 308) rfl (v := (1 : Int32)) rfl ?_
        refine Run.icmpF K at_308 (pT := 333) (pF := 311) (by decide) (by decide) rfl (show ¬ ((4 : Int32) ≤ (1 : Int32)) from by decide) ?_
        refine Run.lload K at_311 (pc' := 313) rfl rfl ?_
        refine Run.lload K at_313 (pc' := 315) rfl rfl ?_
        refine Run.iload K at_315 (pc' := 317) rfl rfl ?_
        refine Run.lload K at_317 (pc' := 319) rfl rfl ?_
        refine Run.lload K at_319 (pc' := 321) rfl rfl ?_
        refine Run.lload K at_321 (pc' := 323) rfl rfl ?_
        refine Run.lload K at_323 (pc' := 325) rfl rfl ?_
        refine Run.lload K at_325 (pc' := 327) rfl rfl ?_
        refine Run.callS K at_327 (pc' := 330) rfl (hw _ (List.mem_of_getElem? (i := 21) rfl)) (hw _ (List.mem_of_getElem? (i := 22) rfl)) (hw _ (List.mem_of_getElem? (i := 19) rfl)) (hw _ (List.mem_of_getElem? (i := 23) rfl)) (by decide) (fi_4 l Z a0 n0 hw [] (c220) (c293) ((4 : Int32)) ((((Int32.ofNat q224).toInt64) * (4 : Int64))) (c212) (c220) (c222) (c293) ([]) ([(r291, .long, [(.long c212), (.long c220), (.long c222), (.long c293)])]) (rfl)) (argsL := [(.long c220), (.long c293), (.int (4 : Int32)), (.long (((Int32.ofNat q224).toInt64) * (4 : Int64))), (.long c212), (.long c220), (.long c222), (.long c293)]) (rest := []) rfl rfl pd_3 rfl (W := 0) rfl (by decide) (by decide) (cells' := 1) (slots' := 4) rfl rfl (by decide) (by decide) ?_
        intro vq Dq hq
        obtain ⟨c341, hc342, rfl, rfl⟩ := hq
        refine Run.as2 (D' := ([], [(r291, .long, [(.long c212), (.long c220), (.long c222), (.long c293)])])) (S' := [(.int c341)]) rfl rfl ?_
        refine Run.ifcF K at_330 (pT := 393) (pF := 333) (by decide) (by decide) rfl (show ¬ (c341 = (0 : Int32)) from own_fi_4_3_1 hs hr hp226 hc342) ?_
        refine Run.iload K at_333 (pc' := 335) rfl rfl ?_
        refine Run.iconst K at_335 (pc' := 336) rfl (v := (2 : Int32)) rfl ?_
        refine Run.icmpF K at_336 (pT := 361) (pF := 339) (by decide) (by decide) rfl (show ¬ ((4 : Int32) ≤ (2 : Int32)) from by decide) ?_
        refine Run.lload K at_339 (pc' := 341) rfl rfl ?_
        refine Run.lload K at_341 (pc' := 343) rfl rfl ?_
        refine Run.iload K at_343 (pc' := 345) rfl rfl ?_
        refine Run.lload K at_345 (pc' := 347) rfl rfl ?_
        refine Run.lload K at_347 (pc' := 349) rfl rfl ?_
        refine Run.lload K at_349 (pc' := 351) rfl rfl ?_
        refine Run.lload K at_351 (pc' := 353) rfl rfl ?_
        refine Run.lload K at_353 (pc' := 355) rfl rfl ?_
        refine Run.callS K at_355 (pc' := 358) rfl (hw _ (List.mem_of_getElem? (i := 21) rfl)) (hw _ (List.mem_of_getElem? (i := 22) rfl)) (hw _ (List.mem_of_getElem? (i := 19) rfl)) (hw _ (List.mem_of_getElem? (i := 23) rfl)) (by decide) (fi_4 l Z a0 n0 hw [] (c222) (c293) ((4 : Int32)) ((((Int32.ofNat q224).toInt64) * (4 : Int64))) (c212) (c220) (c222) (c293) ([]) ([(r291, .long, [(.long c212), (.long c220), (.long c222), (.long c293)])]) (rfl)) (argsL := [(.long c222), (.long c293), (.int (4 : Int32)), (.long (((Int32.ofNat q224).toInt64) * (4 : Int64))), (.long c212), (.long c220), (.long c222), (.long c293)]) (rest := []) rfl rfl pd_3 rfl (W := 0) rfl (by decide) (by decide) (cells' := 1) (slots' := 4) rfl rfl (by decide) (by decide) ?_
        intro vq Dq hq
        obtain ⟨c343, hc344, rfl, rfl⟩ := hq
        refine Run.as2 (D' := ([], [(r291, .long, [(.long c212), (.long c220), (.long c222), (.long c293)])])) (S' := [(.int c343)]) rfl rfl ?_
        refine Run.ifcF K at_358 (pT := 393) (pF := 361) (by decide) (by decide) rfl (show ¬ (c343 = (0 : Int32)) from own_fi_4_3_2 hs hr hp226 hc344) ?_
        refine Run.iload K at_361 (pc' := 363) rfl rfl ?_
        refine Run.iconst K at_363 (pc' := 364) rfl (v := (3 : Int32)) rfl ?_
        refine Run.icmpF K at_364 (pT := 389) (pF := 367) (by decide) (by decide) rfl (show ¬ ((4 : Int32) ≤ (3 : Int32)) from by decide) ?_
        refine Run.lload K at_367 (pc' := 369) rfl rfl ?_
        refine Run.lload K at_369 (pc' := 371) rfl rfl ?_
        refine Run.iload K at_371 (pc' := 373) rfl rfl ?_
        refine Run.lload K at_373 (pc' := 375) rfl rfl ?_
        refine Run.lload K at_375 (pc' := 377) rfl rfl ?_
        refine Run.lload K at_377 (pc' := 379) rfl rfl ?_
        refine Run.lload K at_379 (pc' := 381) rfl rfl ?_
        refine Run.lload K at_381 (pc' := 383) rfl rfl ?_
        refine Run.callS K at_383 (pc' := 386) rfl (hw _ (List.mem_of_getElem? (i := 21) rfl)) (hw _ (List.mem_of_getElem? (i := 22) rfl)) (hw _ (List.mem_of_getElem? (i := 19) rfl)) (hw _ (List.mem_of_getElem? (i := 23) rfl)) (by decide) (fi_4 l Z a0 n0 hw [] (c293) (c293) ((4 : Int32)) ((((Int32.ofNat q224).toInt64) * (4 : Int64))) (c212) (c220) (c222) (c293) ([]) ([(r291, .long, [(.long c212), (.long c220), (.long c222), (.long c293)])]) (rfl)) (argsL := [(.long c293), (.long c293), (.int (4 : Int32)), (.long (((Int32.ofNat q224).toInt64) * (4 : Int64))), (.long c212), (.long c220), (.long c222), (.long c293)]) (rest := []) rfl rfl pd_3 rfl (W := 0) rfl (by decide) (by decide) (cells' := 1) (slots' := 4) rfl rfl (by decide) (by decide) ?_
        intro vq Dq hq
        obtain ⟨c345, hc346, rfl, rfl⟩ := hq
        refine Run.as2 (D' := ([], [(r291, .long, [(.long c212), (.long c220), (.long c222), (.long c293)])])) (S' := [(.int c345)]) rfl rfl ?_
        refine Run.ifcF K at_386 (pT := 393) (pF := 389) (by decide) (by decide) rfl (show ¬ (c345 = (0 : Int32)) from own_fi_4_3_3 hs hr hp226 hc346) ?_
        refine Run.iconst K at_389 (pc' := 390) rfl (v := (1 : Int32)) rfl ?_
        refine Run.goto K at_390 (pc' := 394) (by decide) (by decide) ?_
        refine Run.istore K at_394 (pc' := 396) rfl (L' := #[.val (.long p1), .second, .val (.long p2), .second, .val (.long p3), .second, .val (.long p4), .second, .val (.int p5), .val (.int p6), .val (.int (4 : Int32)), .val (.int (Int32.ofNat q224)), .val (.long c204), .second, .val (.long c206), .second, .val (.long c208), .second, .val (.long c210), .second, .val (.long c212), .second, .val (.long c214), .second, .val (.long c216), .second, .val (.long c293), .second, .val (.long c220), .second, .val (.long c222), .second, .val (.ref r291), .val (.long c293), .second, .val (.long (((Int32.ofNat q224).toInt64) * (4 : Int64))), .second, .val (.int (1 : Int32)), .val (.int (1 : Int32)), .val (.int (1 : Int32))]) rfl ?_
        refine Run.iload K at_396 (pc' := 398) rfl rfl ?_
        refine Run.ifcF K at_398 (pT := 415) (pF := 401) (by decide) (by decide) rfl (show ¬ ((1 : Int32) = (0 : Int32)) from by decide) ?_
        refine Run.iload K at_401 (pc' := 403) rfl rfl ?_
        refine Run.ifcF K at_403 (pT := 415) (pF := 406) (by decide) (by decide) rfl (show ¬ ((1 : Int32) = (0 : Int32)) from by decide) ?_
        refine Run.iload K at_406 (pc' := 408) rfl rfl ?_
        refine Run.ifcF K at_408 (pT := 415) (pF := 411) (by decide) (by decide) rfl (show ¬ ((1 : Int32) = (0 : Int32)) from by decide) ?_
        refine Run.iconst K at_411 (pc' := 412) rfl (v := (1 : Int32)) rfl ?_
        refine Run.goto K at_412 (pc' := 416) (by decide) (by decide) ?_
        exact Run.retN K at_416 (w := (1 : Int32)) rfl (by decide) (by decide) (by decide) (by decide) rfl
      · skip
        refine Run.ifL K at_199 (pT := 244) (pF := 202) (by decide) (by decide) rfl (fun (h199_346 : c212 = c293) => ?_) (fun (h199_346 : ¬ (c212 = c293)) => ?_)
        · skip
          refine Run.iconst K at_244 (pc' := 245) rfl (v := (1 : Int32)) rfl ?_
          refine Run.goto K at_245 (pc' := 249) (by decide) (by decide) ?_
          exact J199
        · skip
          refine Run.iload K at_202 (pc' := 204) rfl rfl ?_
          refine Run.iconst K at_204 (pc' := 205) rfl (v := (1 : Int32)) rfl ?_
          refine Run.icmpF K at_205 (pT := 216) (pF := 208) (by decide) (by decide) rfl (show ¬ ((4 : Int32) ≤ (1 : Int32)) from by decide) ?_
          refine Run.lload K at_208 (pc' := 210) rfl rfl ?_
          refine Run.lload K at_210 (pc' := 212) rfl rfl ?_
          refine Run.lcmp K at_212 (pc' := 213) rfl ?_
          refine Run.ifL K at_213 (pT := 244) (pF := 216) (by decide) (by decide) rfl (fun (h213_347 : c220 = c293) => ?_) (fun (h213_347 : ¬ (c220 = c293)) => ?_)
          · skip
            refine Run.iconst K at_244 (pc' := 245) rfl (v := (1 : Int32)) rfl ?_
            refine Run.goto K at_245 (pc' := 249) (by decide) (by decide) ?_
            exact J199
          · skip
            refine Run.iload K at_216 (pc' := 218) rfl rfl ?_
            refine Run.iconst K at_218 (pc' := 219) rfl (v := (2 : Int32)) rfl ?_
            refine Run.icmpF K at_219 (pT := 230) (pF := 222) (by decide) (by decide) rfl (show ¬ ((4 : Int32) ≤ (2 : Int32)) from by decide) ?_
            refine Run.lload K at_222 (pc' := 224) rfl rfl ?_
            refine Run.lload K at_224 (pc' := 226) rfl rfl ?_
            refine Run.lcmp K at_226 (pc' := 227) rfl ?_
            refine Run.ifL K at_227 (pT := 244) (pF := 230) (by decide) (by decide) rfl (fun (h227_348 : c222 = c293) => ?_) (fun (h227_348 : ¬ (c222 = c293)) => ?_)
            · skip
              refine Run.iconst K at_244 (pc' := 245) rfl (v := (1 : Int32)) rfl ?_
              refine Run.goto K at_245 (pc' := 249) (by decide) (by decide) ?_
              exact J199
            · skip
              refine Run.iload K at_230 (pc' := 232) rfl rfl ?_
              refine Run.iconst K at_232 (pc' := 233) rfl (v := (3 : Int32)) rfl ?_
              refine Run.icmpF K at_233 (pT := 248) (pF := 236) (by decide) (by decide) rfl (show ¬ ((4 : Int32) ≤ (3 : Int32)) from by decide) ?_
              refine Run.lload K at_236 (pc' := 238) rfl rfl ?_
              refine Run.lload K at_238 (pc' := 240) rfl rfl ?_
              refine Run.lcmp K at_240 (pc' := 241) rfl ?_
              refine Run.ifLF K at_241 (pT := 248) (pF := 244) (by decide) (by decide) rfl (show ¬ (c293 ≠ c293) from fun h => h rfl) ?_
              refine Run.iconst K at_244 (pc' := 245) rfl (v := (1 : Int32)) rfl ?_
              refine Run.goto K at_245 (pc' := 249) (by decide) (by decide) ?_
              exact J199
set_option maxRecDepth 65536 in
set_option maxHeartbeats 40000000 in
theorem comes_1 {Post : Tables → Env → Array Value → State → Outcome → State → Prop} (hpost : ∀ tb e args s v u, (limb_1_1.after args s (.returned v) u = true ∧ limb_1_2.after args s (.returned v) u = true ∧ True) → FrameEnd s (.returned v) u (Jvm.fieldLocs frame_1_writes args s ++ Jvm.arrayLocs frame_1_arrays args s ++ Jvm.staticLocs frame_1_statics s) 16 128 → Post tb e args s (.returned v) u) :
    ArmFor flags0 classFile x code maxLocals ret World_1 tables_1 room_1 Calls_1 rest_1 Pre_1 Post := by
  intro l hfl _ _ p e ha hc hk s m args below hf hA hF happ hP
  obtain ⟨hcalls, hrest, hpre⟩ := hP
  obtain ⟨-, -, -, hnamed, -, -, -, hat⟩ := (Spec.applies_iff hf).mp happ
  obtain ⟨hg, hn⟩ := and_e (Cond.before_iff.mp (show (Jvm.Cond.and given_1 narrow_1).before args s = true from hpre))
  obtain ⟨g0, q0⟩ := and_e hg
  obtain ⟨w0, w1, w2, w3, w4, w5, rfl⟩ : ∃ w0 w1 w2 w3 w4 w5 : Value, args = #[w0, w1, w2, w3, w4, w5] := by
    have hs : args.size = 6 := by simpa [Cond.value, given_1] using g0
    obtain ⟨L⟩ := args
    match L, hs with
    | [w0, w1, w2, w3, w4, w5], _ => exact ⟨w0, w1, w2, w3, w4, w5, rfl⟩
  have hw := fun d (hd : d ∈ tables_1) => atoms_spec (ws := Jvm.Cond.code x code maxLocals ret :: tables_1) hat d (List.mem_cons_of_mem _ hd)
  obtain ⟨f0, q1⟩ := and_e q0
  obtain ⟨i0, e0⟩ := isL_v f0
  obtain rfl : w0 = (.long i0) := Option.some.inj e0
  obtain ⟨f1, q2⟩ := and_e q1
  obtain ⟨i1, e1⟩ := isL_v f1
  obtain rfl : w1 = (.long i1) := Option.some.inj e1
  obtain ⟨f2, q3⟩ := and_e q2
  obtain ⟨i2, e2⟩ := isL_v f2
  obtain rfl : w2 = (.long i2) := Option.some.inj e2
  obtain ⟨f3, q4⟩ := and_e q3
  obtain ⟨i3, e3⟩ := isL_v f3
  obtain rfl : w3 = (.long i3) := Option.some.inj e3
  obtain ⟨f4, q5⟩ := and_e q4
  obtain ⟨i4, e4⟩ := is_v f4
  obtain rfl : w4 = (.int i4) := Option.some.inj e4
  obtain ⟨i5, e5⟩ := is_v q5
  obtain rfl : w5 = (.int i5) := Option.some.inj e5
  obtain ⟨n, o, h1, h2, h3, _, L, rfl, ⟨N, D', rfl, -⟩, hq⟩ := rm0 l s _ s.heap.size hw tables_1 i0 i1 i2 i3 i4 i5 s.heap ⟨Old.start s, fun _ h => (nomatch h), fun _ h => (nomatch h), List.nodup_nil⟩ p e ha hc hk s m _ below hf ((Spec.applies_iff_loose hf).mp happ).1 ⟨rfl, State.Warmed39.refl s, rfl⟩ trivial
  refine ⟨n, _, h1, h2, h3, hpost _ _ _ _ _ _ ⟨Cond.after_iff.mpr rfl, Cond.after_iff.mpr (eq_i res_at (Term.int_eval (1)) rfl), trivial⟩ ⟨hq.1, hq.2.1, (hq.2.2.sift fun y hy => Or.inr (N y hy)).mono (by decide) (by decide)⟩⟩
theorem main_1_1 : Claimed_1_1 := comes_1 fun _ _ _ _ _ _ h hF => ⟨h.1, hF⟩
theorem main_1_2 : Claimed_1_2 := comes_1 fun _ _ _ _ _ _ h hF => ⟨h.2.1, hF⟩
end Jvm.Pilot.@@N@@
namespace Jvm.Pilot.@@N@@
open Jvm Jvm.ClassFile Sem Op Lib Jvm.Free Jvm.Stand Jvm.Pilot.@@N@@.Jvm.D
/-! MADE BY PROGRAM (witnessworld.py) out of the Statement's table words and the real class files: 12 classes; the members and pool entries that the words name. The judged class is class 1, her method 1. -/
namespace start1
open Jvm.ClassFile
def u (s : String) : CpInfo := .utf8 (stringToUtf16 s)
/-- a pool by its gaps: so many unusable entries, then the entry; so many at the end -/
def gap : Nat → List CpInfo → List CpInfo
  | 0, r => r
  | n + 1, r => .unusable :: gap n r
def poolList (es : List (Nat × CpInfo)) (last : Nat) : List CpInfo := es.foldr (fun e r => gap e.1 (e.2 :: r)) (gap last [])
def pool (es : List (Nat × CpInfo)) (last : Nat) : Array CpInfo := ⟨poolList es last⟩
def fileOf (pool : Array CpInfo) (this : Nat) (attrs : Array Attribute := #[]) (ms : Array MethodInfo := #[]) (fl : Nat := 33) (sup : Nat := 0) (ifs : Array Nat := #[]) (fds : Array FieldInfo := #[]) : ClassFile where
  minorVersion := 0
  majorVersion := 65
  constantPool := pool
  accessFlags := fl
  thisClass := this
  superClass := sup
  interfaces := ifs
  fields := fds
  methods := ms
  attributes := attrs
def plain (name : String) (sup : Option ClassId) : Class where
  name := name
  kind := .ordinary
  loader := none
  accessFlags := 33
  super := sup
  interfaces := #[]
  cf := none
  fields := #[]
  methods := #[]
  instanceTypes := #[]
  staticTypes := #[]
  resolved := #[]
  callSites := []
  init := .initialized
  statics := none
  mirror := none

def pool0 : Array CpInfo := pool [(5, u "<init>"), (0, u "()V"), (1, .class_ 10), (1, u "java/lang/Object")] 113

def k0m0 : Method := { name := "<init>", desc := "()V", sig := { parameters := [], returnType := none }, accessFlags := 1, code := none }
/-- java/lang/Object -/
def k0 : Class := { plain "java/lang/Object" none with
  accessFlags := 33
  interfaces := #[]
  cf := some (fileOf pool0 8 #[] #[{ accessFlags := 1, nameIndex := 5, descriptorIndex := 6, attributes := #[] }] 33 0 #[] #[])
  fields := #[]
  methods := #[k0m0]
  instanceTypes := #[]
  staticTypes := #[]
  resolved := Array.replicate 124 none
  statics := none }

def pool1 : Array CpInfo := pool [(2, .class_ 4), (1, u "java/lang/Object"), (0, u "<init>"), (0, u "()V"), (0, .integer 2147483647), (0, .methodref 9 10), (0, .class_ 11), (0, .nameAndType 12 13), (0, u "java/lang/Math"), (0, u "min"), (0, u "(JJ)J"), (0, .methodref 9 15), (0, .nameAndType 16 13), (0, u "max"), (0, .methodref 18 19), (0, .class_ 20), (0, .nameAndType 21 22), (0, u "com/example/claim_queue/claimqueue/bench/Report"), (0, u "percentile"), (0, u "([JI)J"), (0, .long 100), (1, .methodref 26 27), (0, .class_ 28), (0, .nameAndType 29 30), (0, u "com/example/claim_queue/claimqueue/bench/ReportPercentilePinLaw"), (0, u "cnt"), (0, u "(JIJJJJ)J"), (0, .methodref 26 32), (0, .nameAndType 33 34), (0, u "fine"), (0, u "(JJIJJJJJ)Z"), (2, u "law"), (0, u "(JJJJII)Z")] 5

def k1m0 : Method := { name := "<init>", desc := "()V", sig := { parameters := [], returnType := none }, accessFlags := 2, code := none }
def k1c1 : Code := { maxStack := 15, maxLocals := 40, code := code, exceptionTable := #[], attributes := #[] }
def k1m1 : Method := { name := "law", desc := "(JJJJII)Z", sig := { parameters := [.long, .long, .long, .long, .int, .int], returnType := some .boolean }, accessFlags := 9, code := some k1c1 }
def k1c2 : Code := { maxStack := 4, maxLocals := 13, code := method_3_code, exceptionTable := #[], attributes := #[] }
def k1m2 : Method := { name := "cnt", desc := "(JIJJJJ)J", sig := { parameters := [.long, .int, .long, .long, .long, .long], returnType := some .long }, accessFlags := 10, code := some k1c2 }
def k1c3 : Code := { maxStack := 13, maxLocals := 15, code := method_4_code, exceptionTable := #[], attributes := #[] }
def k1m3 : Method := { name := "fine", desc := "(JJIJJJJJ)Z", sig := { parameters := [.long, .long, .int, .long, .long, .long, .long, .long], returnType := some .boolean }, accessFlags := 10, code := some k1c3 }
/-- com/example/claim_queue/claimqueue/bench/ReportPercentilePinLaw -/
def k1 : Class := { plain "com/example/claim_queue/claimqueue/bench/ReportPercentilePinLaw" (some 0) with
  accessFlags := 49
  interfaces := #[]
  cf := some (fileOf pool1 26 #[] #[{ accessFlags := 2, nameIndex := 5, descriptorIndex := 6, attributes := #[] }, { accessFlags := 9, nameIndex := 37, descriptorIndex := 38, attributes := #[] }, { accessFlags := 10, nameIndex := 29, descriptorIndex := 30, attributes := #[] }, { accessFlags := 10, nameIndex := 33, descriptorIndex := 34, attributes := #[] }] 49 2 #[] #[])
  fields := #[]
  methods := #[k1m0, k1m1, k1m2, k1m3]
  instanceTypes := #[]
  staticTypes := #[]
  resolved := Array.replicate 44 none
  statics := none }

def pool2 : Array CpInfo := pool [(1, .class_ 2), (0, u "java/lang/Math"), (1, .class_ 6), (1, u "java/lang/Object"), (0, u "<init>"), (0, u "()V"), (89, .class_ 100), (1, u "java/lang/Math$RandomNumberGeneratorHolder"), (20, u "(JJ)J"), (50, u "negativeZeroFloatBits"), (0, u "J"), (2, u "negativeZeroDoubleBits"), (21, u "max"), (2, u "min"), (43, u "$assertionsDisabled"), (0, u "Z"), (91, u "twoToTheDoubleScaleDown"), (0, u "D"), (4, u "twoToTheDoubleScaleUp"), (9, u "E"), (3, u "PI"), (2, u "TAU"), (2, u "DEGREES_TO_RADIANS"), (0, u "RADIANS_TO_DEGREES")] 94

def k2m0 : Method := { name := "<init>", desc := "()V", sig := { parameters := [], returnType := none }, accessFlags := 2, code := none }
def k2c1 : Code := { maxStack := 4, maxLocals := 4, code := jdk_29_method_66_code, exceptionTable := #[], attributes := #[] }
def k2m1 : Method := { name := "max", desc := "(JJ)J", sig := { parameters := [.long, .long], returnType := some .long }, accessFlags := 9, code := some k2c1 }
def k2c2 : Code := { maxStack := 4, maxLocals := 4, code := jdk_29_method_70_code, exceptionTable := #[], attributes := #[] }
def k2m2 : Method := { name := "min", desc := "(JJ)J", sig := { parameters := [.long, .long], returnType := some .long }, accessFlags := 9, code := some k2c2 }
/-- java/lang/Math -/
def k2 : Class := { plain "java/lang/Math" (some 0) with
  accessFlags := 49
  interfaces := #[]
  cf := some (fileOf pool2 1 #[.nestMembers #[98]] #[{ accessFlags := 2, nameIndex := 7, descriptorIndex := 8, attributes := #[] }, { accessFlags := 9, nameIndex := 198, descriptorIndex := 121, attributes := #[] }, { accessFlags := 9, nameIndex := 201, descriptorIndex := 121, attributes := #[] }] 49 4 #[] #[{ accessFlags := 25, nameIndex := 354, descriptorIndex := 339, attributes := #[] }, { accessFlags := 25, nameIndex := 358, descriptorIndex := 339, attributes := #[] }, { accessFlags := 25, nameIndex := 361, descriptorIndex := 339, attributes := #[] }, { accessFlags := 26, nameIndex := 364, descriptorIndex := 339, attributes := #[] }, { accessFlags := 26, nameIndex := 365, descriptorIndex := 339, attributes := #[] }, { accessFlags := 26, nameIndex := 172, descriptorIndex := 173, attributes := #[] }, { accessFlags := 26, nameIndex := 176, descriptorIndex := 173, attributes := #[] }, { accessFlags := 8, nameIndex := 344, descriptorIndex := 339, attributes := #[] }, { accessFlags := 8, nameIndex := 338, descriptorIndex := 339, attributes := #[] }, { accessFlags := 4120, nameIndex := 245, descriptorIndex := 246, attributes := #[] }])
  fields := #[{ name := "E", type := .double, accessFlags := 25, slot := 0, constantValue := 0 }, { name := "PI", type := .double, accessFlags := 25, slot := 1, constantValue := 0 }, { name := "TAU", type := .double, accessFlags := 25, slot := 2, constantValue := 0 }, { name := "DEGREES_TO_RADIANS", type := .double, accessFlags := 26, slot := 3, constantValue := 0 }, { name := "RADIANS_TO_DEGREES", type := .double, accessFlags := 26, slot := 4, constantValue := 0 }, { name := "negativeZeroFloatBits", type := .long, accessFlags := 26, slot := 5, constantValue := 0 }, { name := "negativeZeroDoubleBits", type := .long, accessFlags := 26, slot := 6, constantValue := 0 }, { name := "twoToTheDoubleScaleUp", type := .double, accessFlags := 8, slot := 7, constantValue := 0 }, { name := "twoToTheDoubleScaleDown", type := .double, accessFlags := 8, slot := 8, constantValue := 0 }, { name := "$assertionsDisabled", type := .boolean, accessFlags := 4120, slot := 9, constantValue := 0 }]
  methods := #[k2m0, k2m1, k2m2]
  instanceTypes := #[]
  staticTypes := #[.double, .double, .double, .double, .double, .long, .long, .double, .double, .boolean]
  resolved := Array.replicate 460 none
  statics := none }

def pool3 : Array CpInfo := pool [(2, .class_ 4), (1, u "java/lang/Object"), (0, u "<init>"), (0, u "()V"), (47, .class_ 56), (1, u "com/example/claim_queue/claimqueue/bench/Report"), (0, u "percentile"), (0, u "([JI)J"), (8, .long 99), (1, .long 100), (1, .methodref 72 73), (0, .class_ 74), (0, .nameAndType 75 76), (0, u "java/lang/Math"), (0, u "max"), (0, u "(JJ)J")] 11

def k3m0 : Method := { name := "<init>", desc := "()V", sig := { parameters := [], returnType := none }, accessFlags := 2, code := none }
def k3c1 : Code := { maxStack := 5, maxLocals := 6, code := prog_3_method_3_code, exceptionTable := #[], attributes := #[] }
def k3m1 : Method := { name := "percentile", desc := "([JI)J", sig := { parameters := [(.array .long), .int], returnType := some .long }, accessFlags := 8, code := some k3c1 }
/-- com/example/claim_queue/claimqueue/bench/Report -/
def k3 : Class := { plain "com/example/claim_queue/claimqueue/bench/Report" (some 0) with
  accessFlags := 48
  interfaces := #[]
  cf := some (fileOf pool3 54 #[] #[{ accessFlags := 2, nameIndex := 5, descriptorIndex := 6, attributes := #[] }, { accessFlags := 8, nameIndex := 57, descriptorIndex := 58, attributes := #[] }] 48 2 #[] #[])
  fields := #[]
  methods := #[k3m0, k3m1]
  instanceTypes := #[]
  staticTypes := #[]
  resolved := Array.replicate 88 none
  statics := none }

def pool4 : Array CpInfo := pool [(1, u "java/lang/Cloneable"), (0, .class_ 1), (0, u "java/lang/Object"), (0, .class_ 3)] 3

/-- java/lang/Cloneable -/
def k4 : Class := { plain "java/lang/Cloneable" (some 0) with
  accessFlags := 1537
  interfaces := #[]
  cf := some (fileOf pool4 2 #[] #[] 1537 4 #[] #[])
  fields := #[]
  methods := #[]
  instanceTypes := #[]
  staticTypes := #[]
  resolved := Array.replicate 8 none
  statics := none }

def pool5 : Array CpInfo := pool [(1, u "java/io/Serializable"), (0, .class_ 1), (0, u "java/lang/Object"), (0, .class_ 3)] 3

/-- java/io/Serializable -/
def k5 : Class := { plain "java/io/Serializable" (some 0) with
  accessFlags := 1537
  interfaces := #[]
  cf := some (fileOf pool5 2 #[] #[] 1537 4 #[] #[])
  fields := #[]
  methods := #[]
  instanceTypes := #[]
  staticTypes := #[]
  resolved := Array.replicate 8 none
  statics := none }

/-- the primitive byte -/
def k6 : Class := { plain "byte" none with kind := .primitive 'B', accessFlags := 0x411 }
/-- [B -/
def k7 : Class := { plain "[B" (some 0) with kind := .array 6 .byte, interfaces := #[4, 5], accessFlags := 1041 }

/-- the primitive int -/
def k8 : Class := { plain "int" none with kind := .primitive 'I', accessFlags := 0x411 }
/-- [I -/
def k9 : Class := { plain "[I" (some 0) with kind := .array 8 .int, interfaces := #[4, 5], accessFlags := 1041 }

/-- the primitive long -/
def k10 : Class := { plain "long" none with kind := .primitive 'J', accessFlags := 0x411 }
/-- [J -/
def k11 : Class := { plain "[J" (some 0) with kind := .array 10 .long, interfaces := #[4, 5], accessFlags := 1041 }

def heap : Heap := #[]
def classes : Array Class := #[k0, k1, k2, k3, k4, k5, k6, k7, k8, k9, k10, k11]
def interned : List (Array UInt16 × Addr) := []
def slotsUsed : Nat := 0
def theMethod : MethodId := ⟨1, 1⟩
def args0 : Array Value := #[.long 5, .long 5, .long 5, .long 5, .int 5, .int 5]
def aboutOver (below : List Frame) : State where
  vm := { classes := classes, interned := interned.toArray }
  heap := heap
  slotsUsed := slotsUsed
  threads := #[{ frames := .invoking theMethod args0 :: below }]
def below0 : List Frame := [.native { method := ⟨0, 0⟩, args := #[] }]
def about1 : State := aboutOver below0
def p0 : Program := .bare "" "" ""
def e0 : Env := launch0.env 0 0 0
theorem w_frames : about1.frames = Frame.invoking theMethod args0 :: below0 := rfl
set_option maxRecDepth 65536 in
theorem w_args : argsFit about1.vm theMethod args0 = true := by decide +kernel
set_option maxRecDepth 65536 in
theorem w_heap : heapFits about1 = true := by decide +kernel
set_option maxRecDepth 65536 in
theorem w_runnable : about1.curStatus? = some .runnable := by decide +kernel
set_option maxRecDepth 65536 in
theorem w_alone : about1.alone = true := by decide +kernel
set_option maxRecDepth 65536 in
theorem w_named : about1.methodNamed? x = some theMethod := by decide +kernel
set_option maxRecDepth 65536 in
theorem w_hears : about1.hears theMethod below0 = true := by decide +kernel
set_option maxRecDepth 65536 in
theorem w_ripe : about1.ripe theMethod args0 below0 = true := by decide +kernel
theorem w_running : about1.status = .running := rfl
set_option maxRecDepth 65536 in
theorem w_room : about1.hasRoom e0.platform room_1 = true :=
  launch0.hasRoom_least _ room_1 (by decide +kernel) (by decide +kernel) (by decide +kernel) (by decide +kernel) (by decide +kernel) (by decide +kernel)
theorem allAtoms_all (ts : List Jvm.Cond) (a : Array Jvm.Value) (st : Jvm.State) : (allAtoms ts).before a st = ts.all (fun c => c.before a st) := by
  induction ts with
  | nil => rfl
  | cons c t ih =>
    show (Jvm.Cond.and c (allAtoms t)).before a st = _
    rw [Jvm.Cond.before_and, ih, List.all_cons]
def words1 : List Jvm.Cond := Jvm.Cond.code x code maxLocals ret :: tables_1
/-- a 'code' word, met by the world's own term for the bytes: nothing is compared byte by byte -/
theorem code_word {y : MethodName} {bytes : ByteArray} {mx : Nat} {rt : Option FieldType} {a : Array Value} {s : State} {m : MethodId} {meth : Method} {c : Code} (h1 : s.methodNamed? y = some m) (h2 : s.vm.method? m = some meth) (h3 : meth.code = some c) (h4 : c.code = bytes)
    (h5 : (c.maxLocals == mx && c.exceptionTable.isEmpty && decide (c.maxStack ≤ mostOperands) && decide (meth.sig.returnType = rt) && !meth.locks && decide (parseMethodDescriptor y.desc = some meth.sig)) = true) : (Jvm.Cond.code y bytes mx rt).before a s = true := by
  simp only [Bool.and_eq_true, beq_iff_eq, Bool.not_eq_true', decide_eq_true_eq] at h5
  obtain ⟨⟨⟨⟨⟨g1, g2⟩, g3⟩, g4⟩, g5⟩, g6⟩ := h5
  simp [Cond.before, Cond.holds, Cond.value, h1, h2, h3, h4, g1, g2, g3, g4, g5, g6]
def isCode : Jvm.Cond → Bool
  | .code _ _ _ _ => true
  | _ => false
theorem all_split {L : List Jvm.Cond} {P : Jvm.Cond → Bool} (h1 : L.all (fun c => isCode c || P c) = true) (h2 : ∀ c ∈ L.filter isCode, P c = true) : L.all P = true := by
  refine List.all_eq_true.mpr fun c hc => ?_
  have h := List.all_eq_true.mp h1 c hc
  rcases Bool.eq_false_or_eq_true (isCode c) with hi | hi
  · exact h2 c (List.mem_filter.mpr ⟨hc, hi⟩)
  · simpa [hi] using h
set_option maxRecDepth 65536 in
theorem w_c0 : (Jvm.Cond.code x code maxLocals ret).before args0 about1 = true := code_word (m := ⟨1, 1⟩) (meth := k1m1) (c := k1c1) (by decide +kernel) rfl rfl rfl (by decide +kernel)
set_option maxRecDepth 65536 in
theorem w_c1 : (Jvm.Cond.code ({ cls := "java/lang/Math", name := "min", desc := "(JJ)J" } : Jvm.MethodName) jdk_29_method_70_code (4 : Nat) (Option.some Jvm.ClassFile.FieldType.long)).before args0 about1 = true := code_word (m := ⟨2, 2⟩) (meth := k2m2) (c := k2c2) (by decide +kernel) rfl rfl rfl (by decide +kernel)
set_option maxRecDepth 65536 in
theorem w_c2 : (Jvm.Cond.code ({ cls := "java/lang/Math", name := "max", desc := "(JJ)J" } : Jvm.MethodName) jdk_29_method_66_code (4 : Nat) (Option.some Jvm.ClassFile.FieldType.long)).before args0 about1 = true := code_word (m := ⟨2, 1⟩) (meth := k2m1) (c := k2c1) (by decide +kernel) rfl rfl rfl (by decide +kernel)
set_option maxRecDepth 65536 in
theorem w_c3 : (Jvm.Cond.code ({ cls := "com/example/claim_queue/claimqueue/bench/Report", name := "percentile", desc := "([JI)J" } : Jvm.MethodName) prog_3_method_3_code (6 : Nat) (Option.some Jvm.ClassFile.FieldType.long)).before args0 about1 = true := code_word (m := ⟨3, 1⟩) (meth := k3m1) (c := k3c1) (by decide +kernel) rfl rfl rfl (by decide +kernel)
set_option maxRecDepth 65536 in
theorem w_c4 : (Jvm.Cond.code ({ cls := "com/example/claim_queue/claimqueue/bench/ReportPercentilePinLaw", name := "cnt", desc := "(JIJJJJ)J" } : Jvm.MethodName) method_3_code (13 : Nat) (Option.some Jvm.ClassFile.FieldType.long)).before args0 about1 = true := code_word (m := ⟨1, 2⟩) (meth := k1m2) (c := k1c2) (by decide +kernel) rfl rfl rfl (by decide +kernel)
set_option maxRecDepth 65536 in
theorem w_c5 : (Jvm.Cond.code ({ cls := "com/example/claim_queue/claimqueue/bench/ReportPercentilePinLaw", name := "fine", desc := "(JJIJJJJJ)Z" } : Jvm.MethodName) method_4_code (15 : Nat) (Option.some Jvm.ClassFile.FieldType.boolean)).before args0 about1 = true := code_word (m := ⟨1, 3⟩) (meth := k1m3) (c := k1c3) (by decide +kernel) rfl rfl rfl (by decide +kernel)
def codes1 : List Jvm.Cond := [Jvm.Cond.code x code maxLocals ret, Jvm.Cond.code ({ cls := "java/lang/Math", name := "min", desc := "(JJ)J" } : Jvm.MethodName) jdk_29_method_70_code (4 : Nat) (Option.some Jvm.ClassFile.FieldType.long), Jvm.Cond.code ({ cls := "java/lang/Math", name := "max", desc := "(JJ)J" } : Jvm.MethodName) jdk_29_method_66_code (4 : Nat) (Option.some Jvm.ClassFile.FieldType.long), Jvm.Cond.code ({ cls := "com/example/claim_queue/claimqueue/bench/Report", name := "percentile", desc := "([JI)J" } : Jvm.MethodName) prog_3_method_3_code (6 : Nat) (Option.some Jvm.ClassFile.FieldType.long), Jvm.Cond.code ({ cls := "com/example/claim_queue/claimqueue/bench/ReportPercentilePinLaw", name := "cnt", desc := "(JIJJJJ)J" } : Jvm.MethodName) method_3_code (13 : Nat) (Option.some Jvm.ClassFile.FieldType.long), Jvm.Cond.code ({ cls := "com/example/claim_queue/claimqueue/bench/ReportPercentilePinLaw", name := "fine", desc := "(JJIJJJJJ)Z" } : Jvm.MethodName) method_4_code (15 : Nat) (Option.some Jvm.ClassFile.FieldType.boolean)]
set_option maxRecDepth 65536 in
theorem codes_eq : words1.filter isCode = codes1 := rfl
theorem w_codes : ∀ c ∈ words1.filter isCode, c.before args0 about1 = true := by
  rw [codes_eq]
  intro c hc
  simp only [codes1, List.mem_cons, List.not_mem_nil, or_false] at hc
  rcases hc with rfl | rfl | rfl | rfl | rfl | rfl
  · exact w_c0
  · exact w_c1
  · exact w_c2
  · exact w_c3
  · exact w_c4
  · exact w_c5
set_option maxRecDepth 65536 in
theorem w_t1 : (words1.take 24).all (fun c => isCode c || c.before args0 about1) = true := by decide +kernel
set_option maxRecDepth 65536 in
theorem w_t2 : (words1.drop 24).all (fun c => isCode c || c.before args0 about1) = true := by decide +kernel
theorem w_tables : (allAtoms (Jvm.Cond.code x code maxLocals ret :: tables_1)).before args0 about1 = true := by
  rw [allAtoms_all]
  show words1.all (fun c => c.before args0 about1) = true
  refine all_split ?_ w_codes
  rw [← List.take_append_drop 24 words1, List.all_append, w_t1, w_t2]
  rfl
set_option maxRecDepth 65536 in
theorem w_case : (Jvm.Cond.and given_1 narrow_1).before args0 about1 = true := by decide +kernel
theorem w_applies : (headSpec (Jvm.Cond.code x code maxLocals ret :: tables_1) room_1).applies x e0.platform about1 = true :=
  (Spec.applies_iff w_frames).mpr ⟨w_running, w_runnable, w_alone, w_named, w_hears, w_ripe, w_room, w_tables⟩
theorem atStart : AtStart classFile x code maxLocals ret World_1 tables_1 room_1 Calls_1 rest_1 Pre_1 launch0 p0 e0 about1 theMethod args0 below0 :=
  ⟨lists_1, trivial, launch0.admits_env _ _ _, launch0.least_env, fairChoices_fair.cas, fairChoices_fair.clock, w_frames, w_args, w_heap, w_applies, trivial, trivial, w_case⟩
end start1
theorem witness_1 : WitnessClaimed_1 := ⟨start1.p0, start1.e0, start1.about1, start1.theMethod, start1.args0, start1.below0, start1.atStart⟩
end Jvm.Pilot.@@N@@
