import JvmDerived
import JvmDerived.Pilot.@@N@@Statement
import JvmDerived.Pilot.@@N@@Code
set_option linter.unusedVariables false
set_option linter.unusedSimpArgs false

namespace Jvm.Own
open Jvm Jvm.ClassFile Sem Op Lib Jvm.Free Jvm.Stand Jvm.LawKit Jvm.RoadKit
/-! the heap as a law knows it: its own objects (address, class, fields) and arrays (address, kind, values) -/
abbrev OFld := String × String × String × Value
abbrev OObj := Addr × String × List OFld
abbrev OArr := Addr × FieldType × List Value
abbrev HD := List OObj × List OArr
def FldOk (Z : State) (a0 : Array Value) (h : Heap) (a : Addr) (C : String) (x : OFld) : Prop := Fld Z h a x.1 x.2.1 x.2.2.1 x.2.2.2 ∧ Laid Z a0 C x.1 x.2.1 x.2.2.1 ∧ ∃ t, parseFieldDescriptor x.2.2.1 = some t
def ObjOk (Z : State) (a0 : Array Value) (n0 : Nat) (h : Heap) (o : OObj) : Prop := n0 ≤ o.1 ∧ Exa Z h o.1 o.2.1 ∧ (∀ x ∈ o.2.2, FldOk Z a0 h o.1 o.2.1 x) ∧ (o.2.2.map fun x => x.2.1).Nodup
def ArrOk (Z : State) (n0 : Nat) (h : Heap) (r : OArr) : Prop := n0 ≤ r.1 ∧ ∃ c : Cell, Arr Z h r.1 c r.2.1 ∧ c.slots = r.2.2.toArray ∧ r.2.2.length < 2 ^ 31 ∧ ∀ v ∈ r.2.2, fits r.2.1 v = true
def adrs (D : HD) : List Addr := D.1.map (fun o => o.1) ++ D.2.map (fun r => r.1)
def Heaped (Z : State) (a0 : Array Value) (n0 : Nat) (h : Heap) (D : HD) : Prop := Old Z n0 h ∧ (∀ o ∈ D.1, ObjOk Z a0 n0 h o) ∧ (∀ r ∈ D.2, ArrOk Z n0 h r) ∧ (adrs D).Nodup
section HeapFacts
variable {Z : State} {a0 : Array Value} {n0 : Nat} {h h' : Heap} {D : HD}
theorem FldOk.ext {a : Addr} {C : String} {x : OFld} (F : FldOk Z a0 h a C x) (E : Ext h h') : FldOk Z a0 h' a C x := ⟨F.1.ext E, F.2⟩
theorem ObjOk.ext {o : OObj} (F : ObjOk Z a0 n0 h o) (E : Ext h h') : ObjOk Z a0 n0 h' o := ⟨F.1, F.2.1.ext E, fun x hx => (F.2.2.1 x hx).ext E, F.2.2.2⟩
theorem ArrOk.ext {r : OArr} (F : ArrOk Z n0 h r) (E : Ext h h') : ArrOk Z n0 h' r := by
  obtain ⟨g, c, A, q⟩ := F
  exact ⟨g, c, A.ext E, q⟩
theorem ObjOk.lt {o : OObj} (F : ObjOk Z a0 n0 h o) : o.1 < h.size := F.2.1.lt
theorem ArrOk.lt {r : OArr} (F : ArrOk Z n0 h r) : r.1 < h.size := by
  obtain ⟨g, c, A, q⟩ := F
  exact A.lt
theorem Heaped.lt (H : Heaped Z a0 n0 h D) : ∀ a ∈ adrs D, a < h.size := by
  intro a ha
  rcases List.mem_append.mp ha with q | q
  · obtain ⟨o, ho, rfl⟩ := List.mem_map.mp q
    exact (H.2.1 o ho).lt
  · obtain ⟨o, ho, rfl⟩ := List.mem_map.mp q
    exact (H.2.2.1 o ho).lt
theorem Heaped.fresh (H : Heaped Z a0 n0 h D) : h.size ∉ adrs D := fun q => Nat.lt_irrefl _ (H.lt _ q)
theorem Heaped.base (H : Heaped Z a0 n0 h D) : n0 ≤ h.size := by
  have := H.1.1
  have := H.1.2.1
  omega
theorem ObjOk.other {o : OObj} {a : Addr} {sl : Nat} {v : Value} (F : ObjOk Z a0 n0 h o) (W : Wr h h' a sl v) (q : o.1 ≠ a) : ObjOk Z a0 n0 h' o := ⟨F.1, F.2.1.wr W, fun x hx => ⟨(F.2.2.1 x hx).1.other W (Or.inl q), (F.2.2.1 x hx).2⟩, F.2.2.2⟩
theorem ArrOk.other {r : OArr} {a : Addr} {sl : Nat} {v : Value} (F : ArrOk Z n0 h r) (W : Wr h h' a sl v) (q : r.1 ≠ a) : ArrOk Z n0 h' r := by
  obtain ⟨g, c, A, z⟩ := F
  exact ⟨g, c, A.other W q, z⟩
theorem nodup_of {β γ : Type} {L : List β} {f : β → γ} (N : (L.map f).Nodup) {i j : Nat} {x z : β} (hi : L[i]? = some x) (hj : L[j]? = some z) (e : f x = f z) : i = j := by
  have P := List.pairwise_iff_getElem.mp N
  obtain ⟨li, ei⟩ := List.getElem?_eq_some_iff.mp hi
  obtain ⟨lj, ej⟩ := List.getElem?_eq_some_iff.mp hj
  rcases Nat.lt_trichotomy i j with q | q | q
  · exact absurd (by rw [List.getElem_map, List.getElem_map, ei, ej]; exact e) (P i j (by simpa using li) (by simpa using lj) q)
  · exact q
  · exact absurd (by rw [List.getElem_map, List.getElem_map, ei, ej]; exact e.symm) (P j i (by simpa using lj) (by simpa using li) q)
theorem map_set_same {β γ : Type} (L : List β) (f : β → γ) {i : Nat} {x z : β} (hi : L[i]? = some x) (e : f z = f x) : (L.set i z).map f = L.map f := by
  rw [List.map_set, e]
  obtain ⟨li, rfl⟩ := List.getElem?_eq_some_iff.mp hi
  apply List.ext_getElem?
  intro j
  by_cases q : i = j
  · subst q; simp [li]
  · simp [List.getElem?_set, q]
theorem mem_set_cases {β : Type} {L : List β} {i : Nat} {z w : β} (hw : w ∈ L.set i z) : w = z ∨ ∃ j, j ≠ i ∧ L[j]? = some w := by
  obtain ⟨j, hj⟩ := List.mem_iff_getElem?.mp hw
  rw [List.getElem?_set] at hj
  by_cases q : i = j
  · subst q
    by_cases lt : i < L.length
    · simp [lt] at hj; exact Or.inl hj.symm
    · simp [lt] at hj
  · rw [if_neg q] at hj
    exact Or.inr ⟨j, fun e => q e.symm, hj⟩
theorem Heaped.put {i j : Nat} {a : Addr} {C O n d : String} {fs : List OFld} {v w : Value} (H : Heaped Z a0 n0 h D) (hi : D.1[i]? = some (a, C, fs)) (hj : fs[j]? = some (O, n, d, w)) (W : Wr h h' a (RoadKit.slotOf Z O n d) v) :
    Heaped Z a0 n0 h' (D.1.set i (a, C, fs.set j (O, n, d, v)), D.2) := by
  have HO := H.2.1 _ (List.mem_of_getElem? hi)
  have ND := H.2.2.2
  refine ⟨H.1.wr W HO.1, fun o ho => ?_, fun r hr => ?_, ?_⟩
  · rcases mem_set_cases ho with rfl | ⟨k, hk, ek⟩
    · refine ⟨HO.1, HO.2.1.wr W, fun x hx => ?_, ?_⟩
      · rcases mem_set_cases hx with rfl | ⟨q, hq, eq⟩
        · have F := HO.2.2.1 _ (List.mem_of_getElem? hj)
          exact ⟨F.1.same W, F.2⟩
        · have F := HO.2.2.1 _ (List.mem_of_getElem? eq)
          have G := HO.2.2.1 _ (List.mem_of_getElem? hj)
          refine ⟨F.1.other W (Or.inr ?_), F.2⟩
          obtain ⟨t1, e1⟩ := F.2.2
          obtain ⟨t2, e2⟩ := G.2.2
          exact slot_ne F.2.1 G.2.1 (fun e => hq (nodup_of HO.2.2.2 eq hj e)) e1 e2
      · show ((fs.set j (O, n, d, v)).map fun x => x.2.1).Nodup
        rw [map_set_same fs (fun x => x.2.1) (z := (O, n, d, v)) hj rfl]; exact HO.2.2.2
    · refine (H.2.1 o (List.mem_of_getElem? ek)).other W fun e => hk ?_
      exact nodup_of (List.nodup_append.mp ND).1 ek hi e
  · refine (H.2.2.1 r hr).other W fun e => ?_
    exact (List.nodup_append.mp ND).2.2 a (List.mem_map.mpr ⟨_, List.mem_of_getElem? hi, rfl⟩) r.1 (List.mem_map.mpr ⟨_, hr, rfl⟩) e.symm
  · show (adrs (D.1.set i (a, C, fs.set j (O, n, d, v)), D.2)).Nodup
    have q : adrs (D.1.set i (a, C, fs.set j (O, n, d, v)), D.2) = adrs D := congrArg (fun q => q ++ D.2.map (fun r => r.1)) (map_set_same D.1 (fun o => o.1) (z := (a, C, fs.set j (O, n, d, v))) hi rfl)
    rw [q]; exact ND
theorem Heaped.store {i k : Nat} {a : Addr} {ty : FieldType} {vs : List Value} {v : Value} (H : Heaped Z a0 n0 h D) (hi : D.2[i]? = some (a, ty, vs)) (hv : fits ty v = true) (W : Wr h h' a k v) :
    Heaped Z a0 n0 h' (D.1, D.2.set i (a, ty, vs.set k v)) := by
  have HA := H.2.2.1 _ (List.mem_of_getElem? hi)
  have ND := H.2.2.2
  refine ⟨H.1.wr W HA.1, fun o ho => ?_, fun r hr => ?_, ?_⟩
  · refine (H.2.1 o ho).other W fun e => ?_
    exact (List.nodup_append.mp ND).2.2 o.1 (List.mem_map.mpr ⟨_, ho, rfl⟩) a (List.mem_map.mpr ⟨_, List.mem_of_getElem? hi, rfl⟩) e
  · rcases mem_set_cases hr with rfl | ⟨q, hq, eq⟩
    · obtain ⟨g, c, A, e1, e2, e3⟩ := HA
      refine ⟨g, _, A.same W, ?_, ?_, fun w hw => ?_⟩
      · show c.slots.setIfInBounds k v = _
        rw [e1]; simp
      · show (vs.set k v).length < _
        rw [List.length_set]; exact e2
      · rcases List.mem_or_eq_of_mem_set hw with q | q
        · exact e3 w q
        · rw [q]; exact hv
    · refine (H.2.2.1 r (List.mem_of_getElem? eq)).other W fun e => hq ?_
      exact nodup_of (List.nodup_append.mp ND).2.1 eq hi e
  · show (adrs (D.1, D.2.set i (a, ty, vs.set k v))).Nodup
    have q : adrs (D.1, D.2.set i (a, ty, vs.set k v)) = adrs D := congrArg (fun q => D.1.map (fun r => r.1) ++ q) (map_set_same D.2 (fun o => o.1) (z := (a, ty, vs.set k v)) hi rfl)
    rw [q]; exact ND
theorem Old.ext' {n0 : Nat} (X : Old Z n0 h) (E : Ext h h') : Old Z n0 h' := X.ext E
def FieldsOk (Z : State) (a0 : Array Value) (C : String) (fs : List OFld) : Prop := (∀ x ∈ fs, Laid Z a0 C x.1 x.2.1 x.2.2.1 ∧ ∃ ty, parseFieldDescriptor x.2.2.1 = some ty ∧ x.2.2.2 = defaultValue ty) ∧ (fs.map fun x => x.2.1).Nodup
theorem FieldsOk.nil (C : String) : FieldsOk Z a0 C [] := ⟨fun _ h => (nomatch h), List.nodup_nil⟩
theorem FieldsOk.cons {C O n d : String} {v : Value} {fs : List OFld} {ty : FieldType} (L : Laid Z a0 C O n d) (hty : parseFieldDescriptor d = some ty) (hv : v = defaultValue ty) (hn : n ∉ fs.map fun x => x.2.1) (F : FieldsOk Z a0 C fs) : FieldsOk Z a0 C ((O, n, d, v) :: fs) := by
  refine ⟨fun x hx => ?_, ?_⟩
  · rcases List.mem_cons.mp hx with rfl | hx
    · exact ⟨L, ty, hty, hv⟩
    · exact F.1 x hx
  · rw [List.map_cons]; exact List.nodup_cons.mpr ⟨hn, F.2⟩
theorem Heaped.new {C : String} {fs : List OFld} (H : Heaped Z a0 n0 h D) (E : Ext h h') (A : Exa Z h' h.size C) (F : FieldsOk Z a0 C fs)
    (Dv : ∀ {O nm d : String} {ty : FieldType}, Laid Z a0 C O nm d → parseFieldDescriptor d = some ty → Fld Z h' h.size O nm d (defaultValue ty)) : Heaped Z a0 n0 h' ((h.size, C, fs) :: D.1, D.2) := by
  refine ⟨H.1.ext E, fun o ho => ?_, fun r hr => (H.2.2.1 r hr).ext E, ?_⟩
  · rcases List.mem_cons.mp ho with rfl | ho
    · refine ⟨H.base, A, fun x hx => ?_, F.2⟩
      obtain ⟨L, ty, h1, h2⟩ := F.1 x hx
      exact ⟨by rw [h2]; exact Dv L h1, L, ty, h1⟩
    · exact (H.2.1 o ho).ext E
  · exact List.nodup_cons.mpr ⟨H.fresh, H.2.2.2⟩
theorem Heaped.newArr {ty : FieldType} {c : Cell} {vs : List Value} (H : Heaped Z a0 n0 h D) (E : Ext h h') (A : Arr Z h' h.size c ty) (e1 : c.slots = vs.toArray) (e2 : vs.length < 2 ^ 31) (e3 : ∀ v ∈ vs, fits ty v = true) : Heaped Z a0 n0 h' (D.1, (h.size, ty, vs) :: D.2) := by
  refine ⟨H.1.ext E, fun o ho => (H.2.1 o ho).ext E, fun r hr => ?_, ?_⟩
  · rcases List.mem_cons.mp hr with rfl | hr
    · exact ⟨H.base, c, A, e1, e2, e3⟩
    · exact (H.2.2.1 r hr).ext E
  · have q : (adrs (D.1, (h.size, ty, vs) :: D.2)).Perm (h.size :: adrs D) := by
      unfold adrs; simp only [List.map_cons]; exact List.perm_middle
    exact q.nodup_iff.mpr (List.nodup_cons.mpr ⟨H.fresh, H.2.2.2⟩)
theorem Heaped.perm {D' : HD} (H : Heaped Z a0 n0 h D) (q1 : D'.1.Perm D.1) (q2 : D'.2.Perm D.2) : Heaped Z a0 n0 h D' := by
  refine ⟨H.1, fun o ho => H.2.1 o (q1.mem_iff.mp ho), fun o ho => H.2.2.1 o (q2.mem_iff.mp ho), ?_⟩
  exact ((q1.map _).append (q2.map _)).nodup_iff.mpr H.2.2.2
def bringL {β : Type} (i : Nat) (L : List β) : List β := match L[i]? with
  | some x => x :: (L.take i ++ L.drop (i + 1))
  | none => L
theorem bringL_perm {β : Type} (i : Nat) (L : List β) : (bringL i L).Perm L := by
  unfold bringL
  split
  · rename_i x hx
    obtain ⟨li, rfl⟩ := List.getElem?_eq_some_iff.mp hx
    have q : L = L.take i ++ L[i] :: L.drop (i + 1) := by rw [← List.drop_eq_getElem_cons li, List.take_append_drop]
    have p := (List.perm_middle (a := L[i]) (l₁ := L.take i) (l₂ := L.drop (i + 1))).symm
    rw [← q] at p
    exact p
  · exact List.Perm.refl _
end HeapFacts
/-! a contract, and a run from a point of a body to its end -/
def Con (l : Launch) (Z : State) (a0 : Array Value) (n0 : Nat) (ws : List Jvm.Cond) (y : MethodName) (bytes : ByteArray) (maxL : Nat) (ret : Option FieldType) (rm : Room) (as' : Array Value) (D : HD) (Ψ : Option Value → HD → Prop) : Prop :=
  ∀ h, Heaped Z a0 n0 h D → MetFree l y (head1 (Jvm.Cond.code y bytes maxL ret :: ws) rm) (fun a U => a = as' ∧ Z.Warmed39 U.vm ∧ U.heap = h) (fun _ _ _ _ _ => True) (fun _ U o U' => ∃ v L, o = .returned v ∧ (Fr n0 L ∧ ∃ D', Ψ v D' ∧ Heaped Z a0 n0 U'.heap D') ∧ FrameEnd U o U' L rm.cells rm.slots)
def Run (Z : State) (a0 : Array Value) (n0 : Nat) (p : Program) (l : Launch) (e : Env) (R : Room) (s : State) (m : MethodId) (args : Array Value) (below : List Frame) (meth : Method) (c : Code) (Ψ : Option Value → HD → Prop) (D : HD) (cells slots pc : Nat) (L : Array Slot) (S : List Value) : Prop :=
  ∀ (T : State) (locs : List Loc), Stand p l e R s m args below meth c T locs cells slots → Fr n0 locs → Heaped Z a0 n0 T.heap D →
    ∃ t o, Steps p.tables e below (T.setTop (mkF m pc L S)) t ∧ t.status = .running ∧ Ended t below o ∧ ∃ v L', o = .returned v ∧ (Fr n0 L' ∧ ∃ D', Ψ v D' ∧ Heaped Z a0 n0 t.heap D') ∧ FrameEnd s o t L' R.cells R.slots
def Ctx (Z : State) (y : MethodName) (bytes : ByteArray) (maxL : Nat) (ret : Option FieldType) (p : Program) (s : State) (m : MethodId) (meth : Method) (c : Code) : Prop :=
  p.tables.exec = Jvm.exec ∧ Z.Warmed39 s.vm ∧ c.code = bytes ∧ c.maxLocals = maxL ∧ s.vm.findClass y.cls = some m.cls ∧ meth.name = y.name ∧ meth.sig.returnType = ret ∧ meth.locks = false
def Ret (v : Option Value) (D : HD) (w : Option Value) (E : HD) : Prop := w = v ∧ E = D
theorem Con.of_run {l : Launch} {Z : State} {a0 : Array Value} {n0 : Nat} {ws : List Jvm.Cond} {y : MethodName} {bytes : ByteArray} {maxL : Nat} {ret : Option FieldType} {rm : Room} {as' : Array Value} {D : HD} {Ψ : Option Value → HD → Prop} (hp : plainFor y = true) {L0 : Array Slot} (hL : ∀ m, entryFrame m as' maxL = mkF m 0 L0 [])
    (B : ∀ p e s m below meth c, Ctx Z y bytes maxL ret p s m meth c → Run Z a0 n0 p l e rm s m as' below meth c Ψ D 0 0 0 L0 []) : Con l Z a0 n0 ws y bytes maxL ret rm as' D Ψ := by
  intro h H
  refine MetFree.of_bodySF hp hisR ?_
  intro p e s m args below meth c s₁ Bd hml0 hP hK
  obtain ⟨rfl, hZ, hh⟩ := hP
  have e0 : s₁.heap = h := by rw [← hh, Bd.state]; rfl
  have X0 : Stand p l e rm s m args below meth c s₁ [] 0 0 := Stand.of_body Bd
  obtain ⟨t, o, st, r⟩ := B p e s m below meth c ⟨Bd.exec, hZ, Bd.bytes, hml0, findClass_of_methodNamed Bd.named, (name_of_methodNamed Bd.named Bd.method).1, Bd.returns, Bd.notSynchronized⟩ s₁ [] X0 (Fr.nil n0) (by rw [e0]; exact H)
  exact ⟨t, o, castTop (hL m) st, r⟩
def rel (cd : ClassFile.Cond) (x y : Int32) : Prop := match cd with
  | .eq => x = y
  | .ne => x ≠ y
  | .lt => x < y
  | .ge => y ≤ x
  | .gt => y < x
  | .le => x ≤ y
def relL (cd : ClassFile.Cond) (x y : Int64) : Prop := match cd with
  | .eq => x = y
  | .ne => x ≠ y
  | .lt => x < y
  | .ge => y ≤ x
  | .gt => y < x
  | .le => x ≤ y
theorem rel_iff (cd : ClassFile.Cond) (x y : Int32) : if_icmp.holds cd x y = true ↔ rel cd x y := by
  cases cd
  · show _ ↔ x = y
    by_cases q : x = y
    · rw [(teq q).1]; exact ⟨fun _ => q, fun _ => rfl⟩
    · rw [(feq q).1]; exact ⟨fun h => (Bool.noConfusion h), fun h => absurd h q⟩
  · show _ ↔ x ≠ y
    by_cases q : x = y
    · rw [(teq q).2]; exact ⟨fun h => (Bool.noConfusion h), fun h => absurd q h⟩
    · rw [(feq q).2]; exact ⟨fun _ => q, fun _ => rfl⟩
  · show _ ↔ x < y
    by_cases q : x < y
    · rw [(tlt q).1]; exact ⟨fun _ => q, fun _ => rfl⟩
    · rw [(flt q).1]; exact ⟨fun h => (Bool.noConfusion h), fun h => absurd h q⟩
  · show _ ↔ y ≤ x
    by_cases q : x < y
    · rw [(tlt q).2.1]; exact ⟨fun h => (Bool.noConfusion h), fun h => absurd q (Int32.not_lt.mpr h)⟩
    · rw [(flt q).2.1]; exact ⟨fun _ => Int32.not_lt.mp q, fun _ => rfl⟩
  · show _ ↔ y < x
    by_cases q : y < x
    · rw [(tlt q).2.2.1]; exact ⟨fun _ => q, fun _ => rfl⟩
    · rw [(flt q).2.2.1]; exact ⟨fun h => (Bool.noConfusion h), fun h => absurd h q⟩
  · show _ ↔ x ≤ y
    by_cases q : y < x
    · rw [(tlt q).2.2.2]; exact ⟨fun h => (Bool.noConfusion h), fun h => absurd q (Int32.not_lt.mpr h)⟩
    · rw [(flt q).2.2.2]; exact ⟨fun _ => Int32.not_lt.mp q, fun _ => rfl⟩
theorem relL_iff (cd : ClassFile.Cond) (x y : Int64) : if_icmp.holds cd (lcmpW x y) 0 = true ↔ relL cd x y := by
  rw [rel_iff, lcW]
  cases cd
  · exact lc_eq x y
  · exact not_congr (lc_eq x y)
  · exact lc_lt x y
  · exact lc_ge x y
  · exact lc_gt x y
  · exact lc_le x y
section Runs
variable {Z : State} {a0 : Array Value} {n0 : Nat} {p : Program} {l : Launch} {e : Env} {R : Room} {s : State} {m : MethodId} {args : Array Value} {below : List Frame} {meth : Method} {c : Code} {Ψ : Option Value → HD → Prop} {D : HD} {cells slots pc : Nat} {L : Array Slot} {S : List Value} {y : MethodName} {bytes : ByteArray} {maxL : Nat} {ret : Option FieldType}

theorem Run.iconst (K : Ctx Z y bytes maxL ret p s m meth c) {i : Int} {v : Int32} {pc' : Nat} (hd : decode bytes pc = .ok (.iconst i, 1)) (hp : pc + 1 = pc') (hv : Int32.ofInt i = v) (k : Run Z a0 n0 p l e R s m args below meth c Ψ D cells slots pc' L (.int v :: S)) : Run Z a0 n0 p l e R s m args below meth c Ψ D cells slots pc L S := by
  subst hp hv
  intro T locs X N H
  obtain ⟨t, o, st, r⟩ := k T locs X N H
  exact ⟨t, o, XS.iconst X.here K.1 rfl (hb K.2.2.1 hd) st, r⟩
theorem Run.bipush (K : Ctx Z y bytes maxL ret p s m meth c) {i : Int} {v : Int32} {pc' : Nat} (hd : decode bytes pc = .ok (.bipush i, 2)) (hp : pc + 2 = pc') (hv : (Int8.ofInt i).toInt32 = v) (k : Run Z a0 n0 p l e R s m args below meth c Ψ D cells slots pc' L (.int v :: S)) : Run Z a0 n0 p l e R s m args below meth c Ψ D cells slots pc L S := by
  subst hp hv
  intro T locs X N H
  obtain ⟨t, o, st, r⟩ := k T locs X N H
  exact ⟨t, o, XS.bipush X.here K.1 rfl (hb K.2.2.1 hd) st, r⟩
theorem Run.sipush (K : Ctx Z y bytes maxL ret p s m meth c) {i : Int} {v : Int32} {pc' : Nat} (hd : decode bytes pc = .ok (.sipush i, 3)) (hp : pc + 3 = pc') (hv : (Int16.ofInt i).toInt32 = v) (k : Run Z a0 n0 p l e R s m args below meth c Ψ D cells slots pc' L (.int v :: S)) : Run Z a0 n0 p l e R s m args below meth c Ψ D cells slots pc L S := by
  subst hp hv
  intro T locs X N H
  obtain ⟨t, o, st, r⟩ := k T locs X N H
  exact ⟨t, o, XS.sipush X.here K.1 rfl (hb K.2.2.1 hd) st, r⟩
theorem Run.lconst (K : Ctx Z y bytes maxL ret p s m meth c) {i : Fin 2} {v : Int64} {pc' : Nat} (hd : decode bytes pc = .ok (.lconst i, 1)) (hp : pc + 1 = pc') (hv : Int64.ofNat i = v) (k : Run Z a0 n0 p l e R s m args below meth c Ψ D cells slots pc' L (.long v :: S)) : Run Z a0 n0 p l e R s m args below meth c Ψ D cells slots pc L S := by
  subst hp hv
  intro T locs X N H
  obtain ⟨t, o, st, r⟩ := k T locs X N H
  exact ⟨t, o, XS.lconst X.here K.1 rfl (hb K.2.2.1 hd) st, r⟩
theorem Run.aconstNull (K : Ctx Z y bytes maxL ret p s m meth c) {pc' : Nat} (hd : decode bytes pc = .ok (.aconst_null, 1)) (hp : pc + 1 = pc') (k : Run Z a0 n0 p l e R s m args below meth c Ψ D cells slots pc' L (.null :: S)) : Run Z a0 n0 p l e R s m args below meth c Ψ D cells slots pc L S := by
  subst hp
  intro T locs X N H
  obtain ⟨t, o, st, r⟩ := k T locs X N H
  exact ⟨t, o, XS.aconstNull X.here K.1 rfl (hb K.2.2.1 hd) st, r⟩
theorem Run.iadd (K : Ctx Z y bytes maxL ret p s m meth c) {x z : Int32} {pc' : Nat} (hd : decode bytes pc = .ok (.iadd, 1)) (hp : pc + 1 = pc') (k : Run Z a0 n0 p l e R s m args below meth c Ψ D cells slots pc' L (.int (x + z) :: S)) : Run Z a0 n0 p l e R s m args below meth c Ψ D cells slots pc L (.int z :: .int x :: S) := by
  subst hp
  intro T locs X N H
  obtain ⟨t, o, st, r⟩ := k T locs X N H
  exact ⟨t, o, XS.iadd X.here K.1 rfl (hb K.2.2.1 hd) rfl st, r⟩
theorem Run.isub (K : Ctx Z y bytes maxL ret p s m meth c) {x z : Int32} {pc' : Nat} (hd : decode bytes pc = .ok (.isub, 1)) (hp : pc + 1 = pc') (k : Run Z a0 n0 p l e R s m args below meth c Ψ D cells slots pc' L (.int (x - z) :: S)) : Run Z a0 n0 p l e R s m args below meth c Ψ D cells slots pc L (.int z :: .int x :: S) := by
  subst hp
  intro T locs X N H
  obtain ⟨t, o, st, r⟩ := k T locs X N H
  exact ⟨t, o, XS.isub X.here K.1 rfl (hb K.2.2.1 hd) rfl st, r⟩
theorem Run.imul (K : Ctx Z y bytes maxL ret p s m meth c) {x z : Int32} {pc' : Nat} (hd : decode bytes pc = .ok (.imul, 1)) (hp : pc + 1 = pc') (k : Run Z a0 n0 p l e R s m args below meth c Ψ D cells slots pc' L (.int (x * z) :: S)) : Run Z a0 n0 p l e R s m args below meth c Ψ D cells slots pc L (.int z :: .int x :: S) := by
  subst hp
  intro T locs X N H
  obtain ⟨t, o, st, r⟩ := k T locs X N H
  exact ⟨t, o, XS.imul X.here K.1 rfl (hb K.2.2.1 hd) rfl st, r⟩
theorem Run.iand (K : Ctx Z y bytes maxL ret p s m meth c) {x z : Int32} {pc' : Nat} (hd : decode bytes pc = .ok (.iand, 1)) (hp : pc + 1 = pc') (k : Run Z a0 n0 p l e R s m args below meth c Ψ D cells slots pc' L (.int (x &&& z) :: S)) : Run Z a0 n0 p l e R s m args below meth c Ψ D cells slots pc L (.int z :: .int x :: S) := by
  subst hp
  intro T locs X N H
  obtain ⟨t, o, st, r⟩ := k T locs X N H
  exact ⟨t, o, XS.iand X.here K.1 rfl (hb K.2.2.1 hd) rfl st, r⟩
theorem Run.ior (K : Ctx Z y bytes maxL ret p s m meth c) {x z : Int32} {pc' : Nat} (hd : decode bytes pc = .ok (.ior, 1)) (hp : pc + 1 = pc') (k : Run Z a0 n0 p l e R s m args below meth c Ψ D cells slots pc' L (.int (x ||| z) :: S)) : Run Z a0 n0 p l e R s m args below meth c Ψ D cells slots pc L (.int z :: .int x :: S) := by
  subst hp
  intro T locs X N H
  obtain ⟨t, o, st, r⟩ := k T locs X N H
  exact ⟨t, o, XS.ior X.here K.1 rfl (hb K.2.2.1 hd) rfl st, r⟩
theorem Run.ixor (K : Ctx Z y bytes maxL ret p s m meth c) {x z : Int32} {pc' : Nat} (hd : decode bytes pc = .ok (.ixor, 1)) (hp : pc + 1 = pc') (k : Run Z a0 n0 p l e R s m args below meth c Ψ D cells slots pc' L (.int (x ^^^ z) :: S)) : Run Z a0 n0 p l e R s m args below meth c Ψ D cells slots pc L (.int z :: .int x :: S) := by
  subst hp
  intro T locs X N H
  obtain ⟨t, o, st, r⟩ := k T locs X N H
  exact ⟨t, o, XS.ixor X.here K.1 rfl (hb K.2.2.1 hd) rfl st, r⟩
theorem Run.ishl (K : Ctx Z y bytes maxL ret p s m meth c) {x z : Int32} {pc' : Nat} (hd : decode bytes pc = .ok (.ishl, 1)) (hp : pc + 1 = pc') (k : Run Z a0 n0 p l e R s m args below meth c Ψ D cells slots pc' L (.int (x <<< (z &&& 31)) :: S)) : Run Z a0 n0 p l e R s m args below meth c Ψ D cells slots pc L (.int z :: .int x :: S) := by
  subst hp
  intro T locs X N H
  obtain ⟨t, o, st, r⟩ := k T locs X N H
  exact ⟨t, o, XS.ishl X.here K.1 rfl (hb K.2.2.1 hd) rfl st, r⟩
theorem Run.ishr (K : Ctx Z y bytes maxL ret p s m meth c) {x z : Int32} {pc' : Nat} (hd : decode bytes pc = .ok (.ishr, 1)) (hp : pc + 1 = pc') (k : Run Z a0 n0 p l e R s m args below meth c Ψ D cells slots pc' L (.int (x >>> (z &&& 31)) :: S)) : Run Z a0 n0 p l e R s m args below meth c Ψ D cells slots pc L (.int z :: .int x :: S) := by
  subst hp
  intro T locs X N H
  obtain ⟨t, o, st, r⟩ := k T locs X N H
  exact ⟨t, o, XS.ishr X.here K.1 rfl (hb K.2.2.1 hd) rfl st, r⟩
theorem Run.iushr (K : Ctx Z y bytes maxL ret p s m meth c) {x z : Int32} {pc' : Nat} (hd : decode bytes pc = .ok (.iushr, 1)) (hp : pc + 1 = pc') (k : Run Z a0 n0 p l e R s m args below meth c Ψ D cells slots pc' L (.int ((x.toUInt32 >>> (z &&& 31).toUInt32).toInt32) :: S)) : Run Z a0 n0 p l e R s m args below meth c Ψ D cells slots pc L (.int z :: .int x :: S) := by
  subst hp
  intro T locs X N H
  obtain ⟨t, o, st, r⟩ := k T locs X N H
  exact ⟨t, o, XS.iushr X.here K.1 rfl (hb K.2.2.1 hd) rfl st, r⟩
theorem Run.idiv (K : Ctx Z y bytes maxL ret p s m meth c) {x z : Int32} {pc' : Nat} (hd : decode bytes pc = .ok (.idiv, 1)) (hp : pc + 1 = pc') (hz : z ≠ 0) (k : Run Z a0 n0 p l e R s m args below meth c Ψ D cells slots pc' L (.int (x / z) :: S)) : Run Z a0 n0 p l e R s m args below meth c Ψ D cells slots pc L (.int z :: .int x :: S) := by
  subst hp
  intro T locs X N H
  obtain ⟨t, o, st, r⟩ := k T locs X N H
  exact ⟨t, o, XS.idiv X.here K.1 rfl (hb K.2.2.1 hd) rfl hz st, r⟩
theorem Run.irem (K : Ctx Z y bytes maxL ret p s m meth c) {x z : Int32} {pc' : Nat} (hd : decode bytes pc = .ok (.irem, 1)) (hp : pc + 1 = pc') (hz : z ≠ 0) (k : Run Z a0 n0 p l e R s m args below meth c Ψ D cells slots pc' L (.int (x % z) :: S)) : Run Z a0 n0 p l e R s m args below meth c Ψ D cells slots pc L (.int z :: .int x :: S) := by
  subst hp
  intro T locs X N H
  obtain ⟨t, o, st, r⟩ := k T locs X N H
  exact ⟨t, o, iremM X K.1 rfl (hb K.2.2.1 hd) rfl hz st, r⟩
theorem Run.ineg (K : Ctx Z y bytes maxL ret p s m meth c) {x : Int32} {pc' : Nat} (hd : decode bytes pc = .ok (.ineg, 1)) (hp : pc + 1 = pc') (k : Run Z a0 n0 p l e R s m args below meth c Ψ D cells slots pc' L (.int (-x) :: S)) : Run Z a0 n0 p l e R s m args below meth c Ψ D cells slots pc L (.int x :: S) := by
  subst hp
  intro T locs X N H
  obtain ⟨t, o, st, r⟩ := k T locs X N H
  exact ⟨t, o, XS.ineg X.here K.1 rfl (hb K.2.2.1 hd) rfl st, r⟩
theorem Run.ladd (K : Ctx Z y bytes maxL ret p s m meth c) {x z : Int64} {pc' : Nat} (hd : decode bytes pc = .ok (.ladd, 1)) (hp : pc + 1 = pc') (k : Run Z a0 n0 p l e R s m args below meth c Ψ D cells slots pc' L (.long (x + z) :: S)) : Run Z a0 n0 p l e R s m args below meth c Ψ D cells slots pc L (.long z :: .long x :: S) := by
  subst hp
  intro T locs X N H
  obtain ⟨t, o, st, r⟩ := k T locs X N H
  exact ⟨t, o, XS.ladd X.here K.1 rfl (hb K.2.2.1 hd) rfl st, r⟩
theorem Run.lsub (K : Ctx Z y bytes maxL ret p s m meth c) {x z : Int64} {pc' : Nat} (hd : decode bytes pc = .ok (.lsub, 1)) (hp : pc + 1 = pc') (k : Run Z a0 n0 p l e R s m args below meth c Ψ D cells slots pc' L (.long (x - z) :: S)) : Run Z a0 n0 p l e R s m args below meth c Ψ D cells slots pc L (.long z :: .long x :: S) := by
  subst hp
  intro T locs X N H
  obtain ⟨t, o, st, r⟩ := k T locs X N H
  exact ⟨t, o, XS.lsub X.here K.1 rfl (hb K.2.2.1 hd) rfl st, r⟩
theorem Run.lmul (K : Ctx Z y bytes maxL ret p s m meth c) {x z : Int64} {pc' : Nat} (hd : decode bytes pc = .ok (.lmul, 1)) (hp : pc + 1 = pc') (k : Run Z a0 n0 p l e R s m args below meth c Ψ D cells slots pc' L (.long (x * z) :: S)) : Run Z a0 n0 p l e R s m args below meth c Ψ D cells slots pc L (.long z :: .long x :: S) := by
  subst hp
  intro T locs X N H
  obtain ⟨t, o, st, r⟩ := k T locs X N H
  exact ⟨t, o, XS.lmul X.here K.1 rfl (hb K.2.2.1 hd) rfl st, r⟩
theorem Run.land (K : Ctx Z y bytes maxL ret p s m meth c) {x z : Int64} {pc' : Nat} (hd : decode bytes pc = .ok (.land, 1)) (hp : pc + 1 = pc') (k : Run Z a0 n0 p l e R s m args below meth c Ψ D cells slots pc' L (.long (x &&& z) :: S)) : Run Z a0 n0 p l e R s m args below meth c Ψ D cells slots pc L (.long z :: .long x :: S) := by
  subst hp
  intro T locs X N H
  obtain ⟨t, o, st, r⟩ := k T locs X N H
  exact ⟨t, o, XS.land X.here K.1 rfl (hb K.2.2.1 hd) rfl st, r⟩
theorem Run.lor (K : Ctx Z y bytes maxL ret p s m meth c) {x z : Int64} {pc' : Nat} (hd : decode bytes pc = .ok (.lor, 1)) (hp : pc + 1 = pc') (k : Run Z a0 n0 p l e R s m args below meth c Ψ D cells slots pc' L (.long (x ||| z) :: S)) : Run Z a0 n0 p l e R s m args below meth c Ψ D cells slots pc L (.long z :: .long x :: S) := by
  subst hp
  intro T locs X N H
  obtain ⟨t, o, st, r⟩ := k T locs X N H
  exact ⟨t, o, XS.lor X.here K.1 rfl (hb K.2.2.1 hd) rfl st, r⟩
theorem Run.lxor (K : Ctx Z y bytes maxL ret p s m meth c) {x z : Int64} {pc' : Nat} (hd : decode bytes pc = .ok (.lxor, 1)) (hp : pc + 1 = pc') (k : Run Z a0 n0 p l e R s m args below meth c Ψ D cells slots pc' L (.long (x ^^^ z) :: S)) : Run Z a0 n0 p l e R s m args below meth c Ψ D cells slots pc L (.long z :: .long x :: S) := by
  subst hp
  intro T locs X N H
  obtain ⟨t, o, st, r⟩ := k T locs X N H
  exact ⟨t, o, XS.lxor X.here K.1 rfl (hb K.2.2.1 hd) rfl st, r⟩
theorem Run.ldiv (K : Ctx Z y bytes maxL ret p s m meth c) {x z : Int64} {pc' : Nat} (hd : decode bytes pc = .ok (.ldiv, 1)) (hp : pc + 1 = pc') (hz : z ≠ 0) (k : Run Z a0 n0 p l e R s m args below meth c Ψ D cells slots pc' L (.long (x / z) :: S)) : Run Z a0 n0 p l e R s m args below meth c Ψ D cells slots pc L (.long z :: .long x :: S) := by
  subst hp
  intro T locs X N H
  obtain ⟨t, o, st, r⟩ := k T locs X N H
  exact ⟨t, o, XS.ldiv X.here K.1 rfl (hb K.2.2.1 hd) rfl hz st, r⟩
theorem Run.lrem (K : Ctx Z y bytes maxL ret p s m meth c) {x z : Int64} {pc' : Nat} (hd : decode bytes pc = .ok (.lrem, 1)) (hp : pc + 1 = pc') (hz : z ≠ 0) (k : Run Z a0 n0 p l e R s m args below meth c Ψ D cells slots pc' L (.long (x % z) :: S)) : Run Z a0 n0 p l e R s m args below meth c Ψ D cells slots pc L (.long z :: .long x :: S) := by
  subst hp
  rw [← lrem_mod] at k
  intro T locs X N H
  obtain ⟨t, o, st, r⟩ := k T locs X N H
  exact ⟨t, o, XS.lrem X.here K.1 rfl (hb K.2.2.1 hd) rfl hz st, r⟩
theorem Run.lneg (K : Ctx Z y bytes maxL ret p s m meth c) {x : Int64} {pc' : Nat} (hd : decode bytes pc = .ok (.lneg, 1)) (hp : pc + 1 = pc') (k : Run Z a0 n0 p l e R s m args below meth c Ψ D cells slots pc' L (.long (-x) :: S)) : Run Z a0 n0 p l e R s m args below meth c Ψ D cells slots pc L (.long x :: S) := by
  subst hp
  intro T locs X N H
  obtain ⟨t, o, st, r⟩ := k T locs X N H
  exact ⟨t, o, XS.lneg X.here K.1 rfl (hb K.2.2.1 hd) rfl st, r⟩
theorem Run.lshl (K : Ctx Z y bytes maxL ret p s m meth c) {x : Int64} {z : Int32} {pc' : Nat} (hd : decode bytes pc = .ok (.lshl, 1)) (hp : pc + 1 = pc') (k : Run Z a0 n0 p l e R s m args below meth c Ψ D cells slots pc' L (.long (x <<< (z &&& 0x3f).toInt64) :: S)) : Run Z a0 n0 p l e R s m args below meth c Ψ D cells slots pc L (.int z :: .long x :: S) := by
  subst hp
  intro T locs X N H
  obtain ⟨t, o, st, r⟩ := k T locs X N H
  exact ⟨t, o, XS.lshl X.here K.1 rfl (hb K.2.2.1 hd) rfl st, r⟩
theorem Run.lshr (K : Ctx Z y bytes maxL ret p s m meth c) {x : Int64} {z : Int32} {pc' : Nat} (hd : decode bytes pc = .ok (.lshr, 1)) (hp : pc + 1 = pc') (k : Run Z a0 n0 p l e R s m args below meth c Ψ D cells slots pc' L (.long (x >>> (z &&& 0x3f).toInt64) :: S)) : Run Z a0 n0 p l e R s m args below meth c Ψ D cells slots pc L (.int z :: .long x :: S) := by
  subst hp
  intro T locs X N H
  obtain ⟨t, o, st, r⟩ := k T locs X N H
  exact ⟨t, o, XS.lshr X.here K.1 rfl (hb K.2.2.1 hd) rfl st, r⟩
theorem Run.lushr (K : Ctx Z y bytes maxL ret p s m meth c) {x : Int64} {z : Int32} {pc' : Nat} (hd : decode bytes pc = .ok (.lushr, 1)) (hp : pc + 1 = pc') (k : Run Z a0 n0 p l e R s m args below meth c Ψ D cells slots pc' L (.long ((x.toUInt64 >>> (z &&& 0x3f).toInt64.toUInt64).toInt64) :: S)) : Run Z a0 n0 p l e R s m args below meth c Ψ D cells slots pc L (.int z :: .long x :: S) := by
  subst hp
  intro T locs X N H
  obtain ⟨t, o, st, r⟩ := k T locs X N H
  exact ⟨t, o, XS.lushr X.here K.1 rfl (hb K.2.2.1 hd) rfl st, r⟩
theorem Run.i2l (K : Ctx Z y bytes maxL ret p s m meth c) {x : Int32} {pc' : Nat} (hd : decode bytes pc = .ok (.i2l, 1)) (hp : pc + 1 = pc') (k : Run Z a0 n0 p l e R s m args below meth c Ψ D cells slots pc' L (.long (x.toInt64) :: S)) : Run Z a0 n0 p l e R s m args below meth c Ψ D cells slots pc L (.int x :: S) := by
  subst hp
  intro T locs X N H
  obtain ⟨t, o, st, r⟩ := k T locs X N H
  exact ⟨t, o, XS.i2l X.here K.1 rfl (hb K.2.2.1 hd) rfl st, r⟩
theorem Run.l2i (K : Ctx Z y bytes maxL ret p s m meth c) {x : Int64} {pc' : Nat} (hd : decode bytes pc = .ok (.l2i, 1)) (hp : pc + 1 = pc') (k : Run Z a0 n0 p l e R s m args below meth c Ψ D cells slots pc' L (.int (x.toInt32) :: S)) : Run Z a0 n0 p l e R s m args below meth c Ψ D cells slots pc L (.long x :: S) := by
  subst hp
  intro T locs X N H
  obtain ⟨t, o, st, r⟩ := k T locs X N H
  exact ⟨t, o, XS.l2i X.here K.1 rfl (hb K.2.2.1 hd) rfl st, r⟩
theorem Run.i2b (K : Ctx Z y bytes maxL ret p s m meth c) {x : Int32} {pc' : Nat} (hd : decode bytes pc = .ok (.i2b, 1)) (hp : pc + 1 = pc') (k : Run Z a0 n0 p l e R s m args below meth c Ψ D cells slots pc' L (.int (x.toInt8.toInt32) :: S)) : Run Z a0 n0 p l e R s m args below meth c Ψ D cells slots pc L (.int x :: S) := by
  subst hp
  intro T locs X N H
  obtain ⟨t, o, st, r⟩ := k T locs X N H
  exact ⟨t, o, XS.i2b X.here K.1 rfl (hb K.2.2.1 hd) rfl st, r⟩
theorem Run.i2c (K : Ctx Z y bytes maxL ret p s m meth c) {x : Int32} {pc' : Nat} (hd : decode bytes pc = .ok (.i2c, 1)) (hp : pc + 1 = pc') (k : Run Z a0 n0 p l e R s m args below meth c Ψ D cells slots pc' L (.int (x.toUInt32.toUInt16.toUInt32.toInt32) :: S)) : Run Z a0 n0 p l e R s m args below meth c Ψ D cells slots pc L (.int x :: S) := by
  subst hp
  intro T locs X N H
  obtain ⟨t, o, st, r⟩ := k T locs X N H
  exact ⟨t, o, XS.i2c X.here K.1 rfl (hb K.2.2.1 hd) rfl st, r⟩
theorem Run.i2s (K : Ctx Z y bytes maxL ret p s m meth c) {x : Int32} {pc' : Nat} (hd : decode bytes pc = .ok (.i2s, 1)) (hp : pc + 1 = pc') (k : Run Z a0 n0 p l e R s m args below meth c Ψ D cells slots pc' L (.int (x.toInt16.toInt32) :: S)) : Run Z a0 n0 p l e R s m args below meth c Ψ D cells slots pc L (.int x :: S) := by
  subst hp
  intro T locs X N H
  obtain ⟨t, o, st, r⟩ := k T locs X N H
  exact ⟨t, o, XS.i2s X.here K.1 rfl (hb K.2.2.1 hd) rfl st, r⟩
theorem Run.lcmp (K : Ctx Z y bytes maxL ret p s m meth c) {x z : Int64} {pc' : Nat} (hd : decode bytes pc = .ok (.lcmp, 1)) (hp : pc + 1 = pc') (k : Run Z a0 n0 p l e R s m args below meth c Ψ D cells slots pc' L (.int (lcmpW x z) :: S)) : Run Z a0 n0 p l e R s m args below meth c Ψ D cells slots pc L (.long z :: .long x :: S) := by
  subst hp
  intro T locs X N H
  obtain ⟨t, o, st, r⟩ := k T locs X N H
  exact ⟨t, o, XS.lcmp X.here K.1 rfl (hb K.2.2.1 hd) rfl st, r⟩
theorem Run.dup (K : Ctx Z y bytes maxL ret p s m meth c) {v : Value} {pc' : Nat} (hd : decode bytes pc = .ok (.dup, 1)) (hp : pc + 1 = pc') (hc : v.category = 1) (k : Run Z a0 n0 p l e R s m args below meth c Ψ D cells slots pc' L (v :: v :: S)) : Run Z a0 n0 p l e R s m args below meth c Ψ D cells slots pc L (v :: S) := by
  subst hp
  intro T locs X N H
  obtain ⟨t, o, st, r⟩ := k T locs X N H
  exact ⟨t, o, XS.dup X.here K.1 rfl (hb K.2.2.1 hd) rfl hc st, r⟩
theorem Run.pop (K : Ctx Z y bytes maxL ret p s m meth c) {v : Value} {pc' : Nat} (hd : decode bytes pc = .ok (.pop, 1)) (hp : pc + 1 = pc') (hc : v.category = 1) (k : Run Z a0 n0 p l e R s m args below meth c Ψ D cells slots pc' L S) : Run Z a0 n0 p l e R s m args below meth c Ψ D cells slots pc L (v :: S) := by
  subst hp
  intro T locs X N H
  obtain ⟨t, o, st, r⟩ := k T locs X N H
  exact ⟨t, o, XS.pop X.here K.1 rfl (hb K.2.2.1 hd) rfl hc st, r⟩
theorem Run.dupX1 (K : Ctx Z y bytes maxL ret p s m meth c) {v w : Value} {pc' : Nat} (hd : decode bytes pc = .ok (.dup_x1, 1)) (hp : pc + 1 = pc') (hc : v.category = 1) (hc2 : w.category = 1) (k : Run Z a0 n0 p l e R s m args below meth c Ψ D cells slots pc' L (v :: w :: v :: S)) : Run Z a0 n0 p l e R s m args below meth c Ψ D cells slots pc L (v :: w :: S) := by
  subst hp
  intro T locs X N H
  obtain ⟨t, o, st, r⟩ := k T locs X N H
  exact ⟨t, o, XS.dupX1 X.here K.1 rfl (hb K.2.2.1 hd) rfl hc hc2 st, r⟩
theorem Run.iload (K : Ctx Z y bytes maxL ret p s m meth c) {j : Nat} {v : Int32} {pc' : Nat} (hd : decode bytes pc = .ok (.iload j, 2)) (hp : pc + 2 = pc') (hl : L[j]? = some (.val (.int v))) (k : Run Z a0 n0 p l e R s m args below meth c Ψ D cells slots pc' L (.int v :: S)) : Run Z a0 n0 p l e R s m args below meth c Ψ D cells slots pc L S := by
  subst hp
  intro T locs X N H
  obtain ⟨t, o, st, r⟩ := k T locs X N H
  exact ⟨t, o, XS.iload X.here K.1 rfl (hb K.2.2.1 hd) hl st, r⟩
theorem Run.iloadN (K : Ctx Z y bytes maxL ret p s m meth c) {j : Fin 4} {v : Int32} {pc' : Nat} (hd : decode bytes pc = .ok (.iload_n j, 1)) (hp : pc + 1 = pc') (hl : L[j.val]? = some (.val (.int v))) (k : Run Z a0 n0 p l e R s m args below meth c Ψ D cells slots pc' L (.int v :: S)) : Run Z a0 n0 p l e R s m args below meth c Ψ D cells slots pc L S := by
  subst hp
  intro T locs X N H
  obtain ⟨t, o, st, r⟩ := k T locs X N H
  exact ⟨t, o, XS.iloadN X.here K.1 rfl (hb K.2.2.1 hd) hl st, r⟩
theorem Run.istore (K : Ctx Z y bytes maxL ret p s m meth c) {j : Nat} {v : Int32} {L' : Array Slot} {pc' : Nat} (hd : decode bytes pc = .ok (.istore j, 2)) (hp : pc + 2 = pc') (hl : storeLocals L j (.int v) = some L') (k : Run Z a0 n0 p l e R s m args below meth c Ψ D cells slots pc' L' S) : Run Z a0 n0 p l e R s m args below meth c Ψ D cells slots pc L (.int v :: S) := by
  subst hp
  intro T locs X N H
  obtain ⟨t, o, st, r⟩ := k T locs X N H
  exact ⟨t, o, XS.istore X.here K.1 rfl (hb K.2.2.1 hd) rfl hl st, r⟩
theorem Run.istoreN (K : Ctx Z y bytes maxL ret p s m meth c) {j : Fin 4} {v : Int32} {L' : Array Slot} {pc' : Nat} (hd : decode bytes pc = .ok (.istore_n j, 1)) (hp : pc + 1 = pc') (hl : storeLocals L j.val (.int v) = some L') (k : Run Z a0 n0 p l e R s m args below meth c Ψ D cells slots pc' L' S) : Run Z a0 n0 p l e R s m args below meth c Ψ D cells slots pc L (.int v :: S) := by
  subst hp
  intro T locs X N H
  obtain ⟨t, o, st, r⟩ := k T locs X N H
  exact ⟨t, o, XS.istoreN X.here K.1 rfl (hb K.2.2.1 hd) rfl hl st, r⟩
theorem Run.lload (K : Ctx Z y bytes maxL ret p s m meth c) {j : Nat} {v : Int64} {pc' : Nat} (hd : decode bytes pc = .ok (.lload j, 2)) (hp : pc + 2 = pc') (hl : L[j]? = some (.val (.long v))) (k : Run Z a0 n0 p l e R s m args below meth c Ψ D cells slots pc' L (.long v :: S)) : Run Z a0 n0 p l e R s m args below meth c Ψ D cells slots pc L S := by
  subst hp
  intro T locs X N H
  obtain ⟨t, o, st, r⟩ := k T locs X N H
  exact ⟨t, o, XS.lload X.here K.1 rfl (hb K.2.2.1 hd) hl st, r⟩
theorem Run.lloadN (K : Ctx Z y bytes maxL ret p s m meth c) {j : Fin 4} {v : Int64} {pc' : Nat} (hd : decode bytes pc = .ok (.lload_n j, 1)) (hp : pc + 1 = pc') (hl : L[j.val]? = some (.val (.long v))) (k : Run Z a0 n0 p l e R s m args below meth c Ψ D cells slots pc' L (.long v :: S)) : Run Z a0 n0 p l e R s m args below meth c Ψ D cells slots pc L S := by
  subst hp
  intro T locs X N H
  obtain ⟨t, o, st, r⟩ := k T locs X N H
  exact ⟨t, o, XS.lloadN X.here K.1 rfl (hb K.2.2.1 hd) hl st, r⟩
theorem Run.lstore (K : Ctx Z y bytes maxL ret p s m meth c) {j : Nat} {v : Int64} {L' : Array Slot} {pc' : Nat} (hd : decode bytes pc = .ok (.lstore j, 2)) (hp : pc + 2 = pc') (hl : storeLocals L j (.long v) = some L') (k : Run Z a0 n0 p l e R s m args below meth c Ψ D cells slots pc' L' S) : Run Z a0 n0 p l e R s m args below meth c Ψ D cells slots pc L (.long v :: S) := by
  subst hp
  intro T locs X N H
  obtain ⟨t, o, st, r⟩ := k T locs X N H
  exact ⟨t, o, XS.lstore X.here K.1 rfl (hb K.2.2.1 hd) rfl hl st, r⟩
theorem Run.lstoreN (K : Ctx Z y bytes maxL ret p s m meth c) {j : Fin 4} {v : Int64} {L' : Array Slot} {pc' : Nat} (hd : decode bytes pc = .ok (.lstore_n j, 1)) (hp : pc + 1 = pc') (hl : storeLocals L j.val (.long v) = some L') (k : Run Z a0 n0 p l e R s m args below meth c Ψ D cells slots pc' L' S) : Run Z a0 n0 p l e R s m args below meth c Ψ D cells slots pc L (.long v :: S) := by
  subst hp
  intro T locs X N H
  obtain ⟨t, o, st, r⟩ := k T locs X N H
  exact ⟨t, o, XS.lstoreN X.here K.1 rfl (hb K.2.2.1 hd) rfl hl st, r⟩
theorem Run.aload (K : Ctx Z y bytes maxL ret p s m meth c) {j : Nat} {v : Value} {pc' : Nat} (hd : decode bytes pc = .ok (.aload j, 2)) (hp : pc + 2 = pc') (hl : L[j]? = some (.val v)) (hv : v.isRef = true) (k : Run Z a0 n0 p l e R s m args below meth c Ψ D cells slots pc' L (v :: S)) : Run Z a0 n0 p l e R s m args below meth c Ψ D cells slots pc L S := by
  subst hp
  intro T locs X N H
  obtain ⟨t, o, st, r⟩ := k T locs X N H
  exact ⟨t, o, XS.aload X.here K.1 rfl (hb K.2.2.1 hd) hl hv st, r⟩
theorem Run.aloadN (K : Ctx Z y bytes maxL ret p s m meth c) {j : Fin 4} {v : Value} {pc' : Nat} (hd : decode bytes pc = .ok (.aload_n j, 1)) (hp : pc + 1 = pc') (hl : L[j.val]? = some (.val v)) (hv : v.isRef = true) (k : Run Z a0 n0 p l e R s m args below meth c Ψ D cells slots pc' L (v :: S)) : Run Z a0 n0 p l e R s m args below meth c Ψ D cells slots pc L S := by
  subst hp
  intro T locs X N H
  obtain ⟨t, o, st, r⟩ := k T locs X N H
  exact ⟨t, o, XS.aloadN X.here K.1 rfl (hb K.2.2.1 hd) hl hv st, r⟩
theorem Run.astore (K : Ctx Z y bytes maxL ret p s m meth c) {j : Nat} {v : Value} {L' : Array Slot} {pc' : Nat} (hd : decode bytes pc = .ok (.astore j, 2)) (hp : pc + 2 = pc') (hv : v.isRef = true) (hl : storeLocals L j v = some L') (k : Run Z a0 n0 p l e R s m args below meth c Ψ D cells slots pc' L' S) : Run Z a0 n0 p l e R s m args below meth c Ψ D cells slots pc L (v :: S) := by
  subst hp
  intro T locs X N H
  obtain ⟨t, o, st, r⟩ := k T locs X N H
  exact ⟨t, o, XS.astore X.here K.1 rfl (hb K.2.2.1 hd) rfl hv hl st, r⟩
theorem Run.astoreN (K : Ctx Z y bytes maxL ret p s m meth c) {j : Fin 4} {v : Value} {L' : Array Slot} {pc' : Nat} (hd : decode bytes pc = .ok (.astore_n j, 1)) (hp : pc + 1 = pc') (hv : v.isRef = true) (hl : storeLocals L j.val v = some L') (k : Run Z a0 n0 p l e R s m args below meth c Ψ D cells slots pc' L' S) : Run Z a0 n0 p l e R s m args below meth c Ψ D cells slots pc L (v :: S) := by
  subst hp
  intro T locs X N H
  obtain ⟨t, o, st, r⟩ := k T locs X N H
  exact ⟨t, o, XS.astoreN X.here K.1 rfl (hb K.2.2.1 hd) rfl hv hl st, r⟩
theorem Run.dup2 (K : Ctx Z y bytes maxL ret p s m meth c) {v w : Value} {pc' : Nat} (hd : decode bytes pc = .ok (.dup2, 1)) (hp : pc + 1 = pc') (hc : v.category = 1) (hc2 : w.category = 1) (k : Run Z a0 n0 p l e R s m args below meth c Ψ D cells slots pc' L (v :: w :: v :: w :: S)) : Run Z a0 n0 p l e R s m args below meth c Ψ D cells slots pc L (v :: w :: S) := by
  subst hp
  intro T locs X N H
  obtain ⟨t, o, st, r⟩ := k T locs X N H
  exact ⟨t, o, Jvm.Free.XT.dup2 X.here K.1 rfl (hb K.2.2.1 hd) rfl hc hc2 st, r⟩
theorem Run.dup2L (K : Ctx Z y bytes maxL ret p s m meth c) {x : Int64} {pc' : Nat} (hd : decode bytes pc = .ok (.dup2, 1)) (hp : pc + 1 = pc') (k : Run Z a0 n0 p l e R s m args below meth c Ψ D cells slots pc' L (.long x :: .long x :: S)) : Run Z a0 n0 p l e R s m args below meth c Ψ D cells slots pc L (.long x :: S) := by
  subst hp
  intro T locs X N H
  obtain ⟨t, o, st, r⟩ := k T locs X N H
  exact ⟨t, o, Jvm.Free.XT.dup2L X.here K.1 rfl (hb K.2.2.1 hd) rfl st, r⟩
theorem Run.iinc (K : Ctx Z y bytes maxL ret p s m meth c) {j : Nat} {i : Int} {v : Int32} {L' : Array Slot} {pc' : Nat} (hd : decode bytes pc = .ok (.iinc j i, 3)) (hp : pc + 3 = pc') (hl : L[j]? = some (.val (.int v))) (hl' : storeLocals L j (.int (v + Int32.ofInt i)) = some L') (k : Run Z a0 n0 p l e R s m args below meth c Ψ D cells slots pc' L' S) : Run Z a0 n0 p l e R s m args below meth c Ψ D cells slots pc L S := by
  subst hp
  intro T locs X N H
  obtain ⟨t, o, st, r⟩ := k T locs X N H
  exact ⟨t, o, XS.iinc X.here K.1 rfl (hb K.2.2.1 hd) hl hl' st, r⟩
theorem Run.iaddV (K : Ctx Z y bytes maxL ret p s m meth c) {x z : Int32} {v : Int32} {pc' : Nat} (hd : decode bytes pc = .ok (.iadd, 1)) (hp : pc + 1 = pc') (hv : x + z = v) (k : Run Z a0 n0 p l e R s m args below meth c Ψ D cells slots pc' L (.int v :: S)) : Run Z a0 n0 p l e R s m args below meth c Ψ D cells slots pc L (.int z :: .int x :: S) := Run.iadd K hd hp (by rw [hv]; exact k)
theorem Run.isubV (K : Ctx Z y bytes maxL ret p s m meth c) {x z : Int32} {v : Int32} {pc' : Nat} (hd : decode bytes pc = .ok (.isub, 1)) (hp : pc + 1 = pc') (hv : x - z = v) (k : Run Z a0 n0 p l e R s m args below meth c Ψ D cells slots pc' L (.int v :: S)) : Run Z a0 n0 p l e R s m args below meth c Ψ D cells slots pc L (.int z :: .int x :: S) := Run.isub K hd hp (by rw [hv]; exact k)
theorem Run.imulV (K : Ctx Z y bytes maxL ret p s m meth c) {x z : Int32} {v : Int32} {pc' : Nat} (hd : decode bytes pc = .ok (.imul, 1)) (hp : pc + 1 = pc') (hv : x * z = v) (k : Run Z a0 n0 p l e R s m args below meth c Ψ D cells slots pc' L (.int v :: S)) : Run Z a0 n0 p l e R s m args below meth c Ψ D cells slots pc L (.int z :: .int x :: S) := Run.imul K hd hp (by rw [hv]; exact k)
theorem Run.iandV (K : Ctx Z y bytes maxL ret p s m meth c) {x z : Int32} {v : Int32} {pc' : Nat} (hd : decode bytes pc = .ok (.iand, 1)) (hp : pc + 1 = pc') (hv : x &&& z = v) (k : Run Z a0 n0 p l e R s m args below meth c Ψ D cells slots pc' L (.int v :: S)) : Run Z a0 n0 p l e R s m args below meth c Ψ D cells slots pc L (.int z :: .int x :: S) := Run.iand K hd hp (by rw [hv]; exact k)
theorem Run.iorV (K : Ctx Z y bytes maxL ret p s m meth c) {x z : Int32} {v : Int32} {pc' : Nat} (hd : decode bytes pc = .ok (.ior, 1)) (hp : pc + 1 = pc') (hv : x ||| z = v) (k : Run Z a0 n0 p l e R s m args below meth c Ψ D cells slots pc' L (.int v :: S)) : Run Z a0 n0 p l e R s m args below meth c Ψ D cells slots pc L (.int z :: .int x :: S) := Run.ior K hd hp (by rw [hv]; exact k)
theorem Run.ixorV (K : Ctx Z y bytes maxL ret p s m meth c) {x z : Int32} {v : Int32} {pc' : Nat} (hd : decode bytes pc = .ok (.ixor, 1)) (hp : pc + 1 = pc') (hv : x ^^^ z = v) (k : Run Z a0 n0 p l e R s m args below meth c Ψ D cells slots pc' L (.int v :: S)) : Run Z a0 n0 p l e R s m args below meth c Ψ D cells slots pc L (.int z :: .int x :: S) := Run.ixor K hd hp (by rw [hv]; exact k)
theorem Run.ishlV (K : Ctx Z y bytes maxL ret p s m meth c) {x z : Int32} {v : Int32} {pc' : Nat} (hd : decode bytes pc = .ok (.ishl, 1)) (hp : pc + 1 = pc') (hv : x <<< (z &&& 31) = v) (k : Run Z a0 n0 p l e R s m args below meth c Ψ D cells slots pc' L (.int v :: S)) : Run Z a0 n0 p l e R s m args below meth c Ψ D cells slots pc L (.int z :: .int x :: S) := Run.ishl K hd hp (by rw [hv]; exact k)
theorem Run.ishrV (K : Ctx Z y bytes maxL ret p s m meth c) {x z : Int32} {v : Int32} {pc' : Nat} (hd : decode bytes pc = .ok (.ishr, 1)) (hp : pc + 1 = pc') (hv : x >>> (z &&& 31) = v) (k : Run Z a0 n0 p l e R s m args below meth c Ψ D cells slots pc' L (.int v :: S)) : Run Z a0 n0 p l e R s m args below meth c Ψ D cells slots pc L (.int z :: .int x :: S) := Run.ishr K hd hp (by rw [hv]; exact k)
theorem Run.iushrV (K : Ctx Z y bytes maxL ret p s m meth c) {x z : Int32} {v : Int32} {pc' : Nat} (hd : decode bytes pc = .ok (.iushr, 1)) (hp : pc + 1 = pc') (hv : (x.toUInt32 >>> (z &&& 31).toUInt32).toInt32 = v) (k : Run Z a0 n0 p l e R s m args below meth c Ψ D cells slots pc' L (.int v :: S)) : Run Z a0 n0 p l e R s m args below meth c Ψ D cells slots pc L (.int z :: .int x :: S) := Run.iushr K hd hp (by rw [hv]; exact k)
theorem Run.inegV (K : Ctx Z y bytes maxL ret p s m meth c) {x : Int32} {v : Int32} {pc' : Nat} (hd : decode bytes pc = .ok (.ineg, 1)) (hp : pc + 1 = pc') (hv : -x = v) (k : Run Z a0 n0 p l e R s m args below meth c Ψ D cells slots pc' L (.int v :: S)) : Run Z a0 n0 p l e R s m args below meth c Ψ D cells slots pc L (.int x :: S) := Run.ineg K hd hp (by rw [hv]; exact k)
theorem Run.laddV (K : Ctx Z y bytes maxL ret p s m meth c) {x z : Int64} {v : Int64} {pc' : Nat} (hd : decode bytes pc = .ok (.ladd, 1)) (hp : pc + 1 = pc') (hv : x + z = v) (k : Run Z a0 n0 p l e R s m args below meth c Ψ D cells slots pc' L (.long v :: S)) : Run Z a0 n0 p l e R s m args below meth c Ψ D cells slots pc L (.long z :: .long x :: S) := Run.ladd K hd hp (by rw [hv]; exact k)
theorem Run.lsubV (K : Ctx Z y bytes maxL ret p s m meth c) {x z : Int64} {v : Int64} {pc' : Nat} (hd : decode bytes pc = .ok (.lsub, 1)) (hp : pc + 1 = pc') (hv : x - z = v) (k : Run Z a0 n0 p l e R s m args below meth c Ψ D cells slots pc' L (.long v :: S)) : Run Z a0 n0 p l e R s m args below meth c Ψ D cells slots pc L (.long z :: .long x :: S) := Run.lsub K hd hp (by rw [hv]; exact k)
theorem Run.lmulV (K : Ctx Z y bytes maxL ret p s m meth c) {x z : Int64} {v : Int64} {pc' : Nat} (hd : decode bytes pc = .ok (.lmul, 1)) (hp : pc + 1 = pc') (hv : x * z = v) (k : Run Z a0 n0 p l e R s m args below meth c Ψ D cells slots pc' L (.long v :: S)) : Run Z a0 n0 p l e R s m args below meth c Ψ D cells slots pc L (.long z :: .long x :: S) := Run.lmul K hd hp (by rw [hv]; exact k)
theorem Run.landV (K : Ctx Z y bytes maxL ret p s m meth c) {x z : Int64} {v : Int64} {pc' : Nat} (hd : decode bytes pc = .ok (.land, 1)) (hp : pc + 1 = pc') (hv : x &&& z = v) (k : Run Z a0 n0 p l e R s m args below meth c Ψ D cells slots pc' L (.long v :: S)) : Run Z a0 n0 p l e R s m args below meth c Ψ D cells slots pc L (.long z :: .long x :: S) := Run.land K hd hp (by rw [hv]; exact k)
theorem Run.lorV (K : Ctx Z y bytes maxL ret p s m meth c) {x z : Int64} {v : Int64} {pc' : Nat} (hd : decode bytes pc = .ok (.lor, 1)) (hp : pc + 1 = pc') (hv : x ||| z = v) (k : Run Z a0 n0 p l e R s m args below meth c Ψ D cells slots pc' L (.long v :: S)) : Run Z a0 n0 p l e R s m args below meth c Ψ D cells slots pc L (.long z :: .long x :: S) := Run.lor K hd hp (by rw [hv]; exact k)
theorem Run.lxorV (K : Ctx Z y bytes maxL ret p s m meth c) {x z : Int64} {v : Int64} {pc' : Nat} (hd : decode bytes pc = .ok (.lxor, 1)) (hp : pc + 1 = pc') (hv : x ^^^ z = v) (k : Run Z a0 n0 p l e R s m args below meth c Ψ D cells slots pc' L (.long v :: S)) : Run Z a0 n0 p l e R s m args below meth c Ψ D cells slots pc L (.long z :: .long x :: S) := Run.lxor K hd hp (by rw [hv]; exact k)
theorem Run.lnegV (K : Ctx Z y bytes maxL ret p s m meth c) {x : Int64} {v : Int64} {pc' : Nat} (hd : decode bytes pc = .ok (.lneg, 1)) (hp : pc + 1 = pc') (hv : -x = v) (k : Run Z a0 n0 p l e R s m args below meth c Ψ D cells slots pc' L (.long v :: S)) : Run Z a0 n0 p l e R s m args below meth c Ψ D cells slots pc L (.long x :: S) := Run.lneg K hd hp (by rw [hv]; exact k)
theorem Run.lshlV (K : Ctx Z y bytes maxL ret p s m meth c) {x : Int64} {z : Int32} {v : Int64} {pc' : Nat} (hd : decode bytes pc = .ok (.lshl, 1)) (hp : pc + 1 = pc') (hv : x <<< (z &&& 0x3f).toInt64 = v) (k : Run Z a0 n0 p l e R s m args below meth c Ψ D cells slots pc' L (.long v :: S)) : Run Z a0 n0 p l e R s m args below meth c Ψ D cells slots pc L (.int z :: .long x :: S) := Run.lshl K hd hp (by rw [hv]; exact k)
theorem Run.lshrV (K : Ctx Z y bytes maxL ret p s m meth c) {x : Int64} {z : Int32} {v : Int64} {pc' : Nat} (hd : decode bytes pc = .ok (.lshr, 1)) (hp : pc + 1 = pc') (hv : x >>> (z &&& 0x3f).toInt64 = v) (k : Run Z a0 n0 p l e R s m args below meth c Ψ D cells slots pc' L (.long v :: S)) : Run Z a0 n0 p l e R s m args below meth c Ψ D cells slots pc L (.int z :: .long x :: S) := Run.lshr K hd hp (by rw [hv]; exact k)
theorem Run.lushrV (K : Ctx Z y bytes maxL ret p s m meth c) {x : Int64} {z : Int32} {v : Int64} {pc' : Nat} (hd : decode bytes pc = .ok (.lushr, 1)) (hp : pc + 1 = pc') (hv : (x.toUInt64 >>> (z &&& 0x3f).toInt64.toUInt64).toInt64 = v) (k : Run Z a0 n0 p l e R s m args below meth c Ψ D cells slots pc' L (.long v :: S)) : Run Z a0 n0 p l e R s m args below meth c Ψ D cells slots pc L (.int z :: .long x :: S) := Run.lushr K hd hp (by rw [hv]; exact k)
theorem Run.i2lV (K : Ctx Z y bytes maxL ret p s m meth c) {x : Int32} {v : Int64} {pc' : Nat} (hd : decode bytes pc = .ok (.i2l, 1)) (hp : pc + 1 = pc') (hv : x.toInt64 = v) (k : Run Z a0 n0 p l e R s m args below meth c Ψ D cells slots pc' L (.long v :: S)) : Run Z a0 n0 p l e R s m args below meth c Ψ D cells slots pc L (.int x :: S) := Run.i2l K hd hp (by rw [hv]; exact k)
theorem Run.l2iV (K : Ctx Z y bytes maxL ret p s m meth c) {x : Int64} {v : Int32} {pc' : Nat} (hd : decode bytes pc = .ok (.l2i, 1)) (hp : pc + 1 = pc') (hv : x.toInt32 = v) (k : Run Z a0 n0 p l e R s m args below meth c Ψ D cells slots pc' L (.int v :: S)) : Run Z a0 n0 p l e R s m args below meth c Ψ D cells slots pc L (.long x :: S) := Run.l2i K hd hp (by rw [hv]; exact k)
theorem Run.i2bV (K : Ctx Z y bytes maxL ret p s m meth c) {x : Int32} {v : Int32} {pc' : Nat} (hd : decode bytes pc = .ok (.i2b, 1)) (hp : pc + 1 = pc') (hv : x.toInt8.toInt32 = v) (k : Run Z a0 n0 p l e R s m args below meth c Ψ D cells slots pc' L (.int v :: S)) : Run Z a0 n0 p l e R s m args below meth c Ψ D cells slots pc L (.int x :: S) := Run.i2b K hd hp (by rw [hv]; exact k)
theorem Run.i2cV (K : Ctx Z y bytes maxL ret p s m meth c) {x : Int32} {v : Int32} {pc' : Nat} (hd : decode bytes pc = .ok (.i2c, 1)) (hp : pc + 1 = pc') (hv : x.toUInt32.toUInt16.toUInt32.toInt32 = v) (k : Run Z a0 n0 p l e R s m args below meth c Ψ D cells slots pc' L (.int v :: S)) : Run Z a0 n0 p l e R s m args below meth c Ψ D cells slots pc L (.int x :: S) := Run.i2c K hd hp (by rw [hv]; exact k)
theorem Run.i2sV (K : Ctx Z y bytes maxL ret p s m meth c) {x : Int32} {v : Int32} {pc' : Nat} (hd : decode bytes pc = .ok (.i2s, 1)) (hp : pc + 1 = pc') (hv : x.toInt16.toInt32 = v) (k : Run Z a0 n0 p l e R s m args below meth c Ψ D cells slots pc' L (.int v :: S)) : Run Z a0 n0 p l e R s m args below meth c Ψ D cells slots pc L (.int x :: S) := Run.i2s K hd hp (by rw [hv]; exact k)
theorem Run.lcmpV (K : Ctx Z y bytes maxL ret p s m meth c) {x z : Int64} {v : Int32} {pc' : Nat} (hd : decode bytes pc = .ok (.lcmp, 1)) (hp : pc + 1 = pc') (hv : lcmpW x z = v) (k : Run Z a0 n0 p l e R s m args below meth c Ψ D cells slots pc' L (.int v :: S)) : Run Z a0 n0 p l e R s m args below meth c Ψ D cells slots pc L (.long z :: .long x :: S) := Run.lcmp K hd hp (by rw [hv]; exact k)
theorem Run.goto (K : Ctx Z y bytes maxL ret p s m meth c) {i : Int} {pc' : Nat} (hd : decode bytes pc = .ok (.goto i, 3)) (ho : 0 ≤ (pc : Int) + i) (hp : ((pc : Int) + i).toNat = pc') (k : Run Z a0 n0 p l e R s m args below meth c Ψ D cells slots pc' L S) : Run Z a0 n0 p l e R s m args below meth c Ψ D cells slots pc L S := by
  intro T locs X N H
  obtain ⟨t, o, st, r⟩ := k T locs X N H
  exact ⟨t, o, XS.goto X.here K.1 rfl rfl (hb K.2.2.1 hd) ho hp st, r⟩
theorem Run.icmp (K : Ctx Z y bytes maxL ret p s m meth c) {x z : Int32} {cd : ClassFile.Cond} {i : Int} {pT pF : Nat} (hd : decode bytes pc = .ok (.if_icmp cd i, 3)) (ho : 0 ≤ (pc : Int) + i) (hT : ((pc : Int) + i).toNat = pT) (hF : pc + 3 = pF) (kT : rel cd x z → Run Z a0 n0 p l e R s m args below meth c Ψ D cells slots pT L S) (kF : ¬ rel cd x z → Run Z a0 n0 p l e R s m args below meth c Ψ D cells slots pF L S) : Run Z a0 n0 p l e R s m args below meth c Ψ D cells slots pc L (.int z :: .int x :: S) := by
  subst hF
  intro T locs X N H
  by_cases q : rel cd x z
  · obtain ⟨t, o, st, r⟩ := kT q T locs X N H
    exact ⟨t, o, XS.icmpYes X.here K.1 rfl rfl (hb K.2.2.1 hd) rfl ((rel_iff cd x z).mpr q) ho hT st, r⟩
  · obtain ⟨t, o, st, r⟩ := kF q T locs X N H
    exact ⟨t, o, XS.icmpNo X.here K.1 rfl (hb K.2.2.1 hd) rfl (Bool.eq_false_iff.mpr fun h => q ((rel_iff cd x z).mp h)) st, r⟩
theorem Run.ifc (K : Ctx Z y bytes maxL ret p s m meth c) {x : Int32} {cd : ClassFile.Cond} {i : Int} {pT pF : Nat} (hd : decode bytes pc = .ok (.ifCond cd i, 3)) (ho : 0 ≤ (pc : Int) + i) (hT : ((pc : Int) + i).toNat = pT) (hF : pc + 3 = pF) (kT : rel cd x 0 → Run Z a0 n0 p l e R s m args below meth c Ψ D cells slots pT L S) (kF : ¬ rel cd x 0 → Run Z a0 n0 p l e R s m args below meth c Ψ D cells slots pF L S) : Run Z a0 n0 p l e R s m args below meth c Ψ D cells slots pc L (.int x :: S) := by
  subst hF
  intro T locs X N H
  by_cases q : rel cd x 0
  · obtain ⟨t, o, st, r⟩ := kT q T locs X N H
    exact ⟨t, o, XS.ifYes X.here K.1 rfl rfl (hb K.2.2.1 hd) rfl ((if0 cd x).trans ((rel_iff cd x 0).mpr q)) ho hT st, r⟩
  · obtain ⟨t, o, st, r⟩ := kF q T locs X N H
    exact ⟨t, o, XS.ifNo X.here K.1 rfl (hb K.2.2.1 hd) rfl (Bool.eq_false_iff.mpr fun h => q ((rel_iff cd x 0).mp ((if0 cd x).symm.trans h))) st, r⟩
theorem Run.ifL (K : Ctx Z y bytes maxL ret p s m meth c) {x z : Int64} {cd : ClassFile.Cond} {i : Int} {pT pF : Nat} (hd : decode bytes pc = .ok (.ifCond cd i, 3)) (ho : 0 ≤ (pc : Int) + i) (hT : ((pc : Int) + i).toNat = pT) (hF : pc + 3 = pF) (kT : relL cd x z → Run Z a0 n0 p l e R s m args below meth c Ψ D cells slots pT L S) (kF : ¬ relL cd x z → Run Z a0 n0 p l e R s m args below meth c Ψ D cells slots pF L S) : Run Z a0 n0 p l e R s m args below meth c Ψ D cells slots pc L (.int (lcmpW x z) :: S) := by
  subst hF
  intro T locs X N H
  by_cases q : relL cd x z
  · obtain ⟨t, o, st, r⟩ := kT q T locs X N H
    exact ⟨t, o, XS.ifYes X.here K.1 rfl rfl (hb K.2.2.1 hd) rfl ((if0 cd _).trans ((relL_iff cd x z).mpr q)) ho hT st, r⟩
  · obtain ⟨t, o, st, r⟩ := kF q T locs X N H
    exact ⟨t, o, XS.ifNo X.here K.1 rfl (hb K.2.2.1 hd) rfl (Bool.eq_false_iff.mpr fun h => q ((relL_iff cd x z).mp ((if0 cd _).symm.trans h))) st, r⟩
theorem Run.icmpT (K : Ctx Z y bytes maxL ret p s m meth c) {x z : Int32} {cd : ClassFile.Cond} {i : Int} {pT pF : Nat} (hd : decode bytes pc = .ok (.if_icmp cd i, 3)) (ho : 0 ≤ (pc : Int) + i) (hT : ((pc : Int) + i).toNat = pT) (hF : pc + 3 = pF) (q : rel cd x z) (kT : Run Z a0 n0 p l e R s m args below meth c Ψ D cells slots pT L S) : Run Z a0 n0 p l e R s m args below meth c Ψ D cells slots pc L (.int z :: .int x :: S) := Run.icmp K hd ho hT hF (fun _ => kT) (fun h => absurd q h)
theorem Run.icmpF (K : Ctx Z y bytes maxL ret p s m meth c) {x z : Int32} {cd : ClassFile.Cond} {i : Int} {pT pF : Nat} (hd : decode bytes pc = .ok (.if_icmp cd i, 3)) (ho : 0 ≤ (pc : Int) + i) (hT : ((pc : Int) + i).toNat = pT) (hF : pc + 3 = pF) (q : ¬ rel cd x z) (kF : Run Z a0 n0 p l e R s m args below meth c Ψ D cells slots pF L S) : Run Z a0 n0 p l e R s m args below meth c Ψ D cells slots pc L (.int z :: .int x :: S) := Run.icmp K hd ho hT hF (fun h => absurd h q) (fun _ => kF)
theorem Run.ifcT (K : Ctx Z y bytes maxL ret p s m meth c) {x : Int32} {cd : ClassFile.Cond} {i : Int} {pT pF : Nat} (hd : decode bytes pc = .ok (.ifCond cd i, 3)) (ho : 0 ≤ (pc : Int) + i) (hT : ((pc : Int) + i).toNat = pT) (hF : pc + 3 = pF) (q : rel cd x 0) (kT : Run Z a0 n0 p l e R s m args below meth c Ψ D cells slots pT L S) : Run Z a0 n0 p l e R s m args below meth c Ψ D cells slots pc L (.int x :: S) := Run.ifc K hd ho hT hF (fun _ => kT) (fun h => absurd q h)
theorem Run.ifcF (K : Ctx Z y bytes maxL ret p s m meth c) {x : Int32} {cd : ClassFile.Cond} {i : Int} {pT pF : Nat} (hd : decode bytes pc = .ok (.ifCond cd i, 3)) (ho : 0 ≤ (pc : Int) + i) (hT : ((pc : Int) + i).toNat = pT) (hF : pc + 3 = pF) (q : ¬ rel cd x 0) (kF : Run Z a0 n0 p l e R s m args below meth c Ψ D cells slots pF L S) : Run Z a0 n0 p l e R s m args below meth c Ψ D cells slots pc L (.int x :: S) := Run.ifc K hd ho hT hF (fun h => absurd h q) (fun _ => kF)
theorem Run.ifLT (K : Ctx Z y bytes maxL ret p s m meth c) {x z : Int64} {cd : ClassFile.Cond} {i : Int} {pT pF : Nat} (hd : decode bytes pc = .ok (.ifCond cd i, 3)) (ho : 0 ≤ (pc : Int) + i) (hT : ((pc : Int) + i).toNat = pT) (hF : pc + 3 = pF) (q : relL cd x z) (kT : Run Z a0 n0 p l e R s m args below meth c Ψ D cells slots pT L S) : Run Z a0 n0 p l e R s m args below meth c Ψ D cells slots pc L (.int (lcmpW x z) :: S) := Run.ifL K hd ho hT hF (fun _ => kT) (fun h => absurd q h)
theorem Run.ifLF (K : Ctx Z y bytes maxL ret p s m meth c) {x z : Int64} {cd : ClassFile.Cond} {i : Int} {pT pF : Nat} (hd : decode bytes pc = .ok (.ifCond cd i, 3)) (ho : 0 ≤ (pc : Int) + i) (hT : ((pc : Int) + i).toNat = pT) (hF : pc + 3 = pF) (q : ¬ relL cd x z) (kF : Run Z a0 n0 p l e R s m args below meth c Ψ D cells slots pF L S) : Run Z a0 n0 p l e R s m args below meth c Ψ D cells slots pc L (.int (lcmpW x z) :: S) := Run.ifL K hd ho hT hF (fun h => absurd h q) (fun _ => kF)
theorem Run.ifnonnullT (K : Ctx Z y bytes maxL ret p s m meth c) {a : Addr} {i : Int} {pT : Nat} (hd : decode bytes pc = .ok (.ifnonnull i, 3)) (ho : 0 ≤ (pc : Int) + i) (hT : ((pc : Int) + i).toNat = pT) (k : Run Z a0 n0 p l e R s m args below meth c Ψ D cells slots pT L S) : Run Z a0 n0 p l e R s m args below meth c Ψ D cells slots pc L (.ref a :: S) := by
  intro T locs X N H
  obtain ⟨t, o, st, r⟩ := k T locs X N H
  exact ⟨t, o, XS.ifnonnullYes X.here K.1 rfl rfl (hb K.2.2.1 hd) rfl ho hT st, r⟩
theorem Run.as {D' : HD} (hD : D' = D) (k : Run Z a0 n0 p l e R s m args below meth c Ψ D' cells slots pc L S) : Run Z a0 n0 p l e R s m args below meth c Ψ D cells slots pc L S := by subst hD; exact k
theorem Run.as2 {D' : HD} {S' : List Value} (hD : D' = D) (hS : S' = S) (k : Run Z a0 n0 p l e R s m args below meth c Ψ D' cells slots pc L S') : Run Z a0 n0 p l e R s m args below meth c Ψ D cells slots pc L S := by subst hD hS; exact k
theorem Ret.k {v : Option Value} {D1 : HD} {S' rest : List Value} {cells' slots' pc' : Nat} (hS : S' = v.toList ++ rest) (k : Run Z a0 n0 p l e R s m args below meth c Ψ D1 cells' slots' pc' L S') : ∀ (w : Option Value) (D' : HD), Ret v D1 w D' → Run Z a0 n0 p l e R s m args below meth c Ψ D' cells' slots' pc' L (w.toList ++ rest) := by rintro w D' ⟨rfl, rfl⟩; subst hS; exact k
theorem Run.join0 {D' : HD} {cells' slots' pc' : Nat} {L' : Array Slot} {S' : List Value} (k : Run Z a0 n0 p l e R s m args below meth c Ψ D' cells' slots' pc' L' S') (b : Run Z a0 n0 p l e R s m args below meth c Ψ D' cells' slots' pc' L' S' → Run Z a0 n0 p l e R s m args below meth c Ψ D cells slots pc L S) : Run Z a0 n0 p l e R s m args below meth c Ψ D cells slots pc L S := b k
theorem Run.join1 {α0 : Type} {F : α0 → Prop} {D' : α0 → HD} {cells' slots' pc' : Nat} {L' : α0 → Array Slot} {S' : α0 → List Value} (k : (∀ w0, F w0 → Run Z a0 n0 p l e R s m args below meth c Ψ (D' w0) cells' slots' pc' (L' w0) (S' w0))) (b : (∀ w0, F w0 → Run Z a0 n0 p l e R s m args below meth c Ψ (D' w0) cells' slots' pc' (L' w0) (S' w0)) → Run Z a0 n0 p l e R s m args below meth c Ψ D cells slots pc L S) : Run Z a0 n0 p l e R s m args below meth c Ψ D cells slots pc L S := b k
theorem Run.join2 {α0 : Type} {α1 : Type} {F : α0 → α1 → Prop} {D' : α0 → α1 → HD} {cells' slots' pc' : Nat} {L' : α0 → α1 → Array Slot} {S' : α0 → α1 → List Value} (k : (∀ w0 w1, F w0 w1 → Run Z a0 n0 p l e R s m args below meth c Ψ (D' w0 w1) cells' slots' pc' (L' w0 w1) (S' w0 w1))) (b : (∀ w0 w1, F w0 w1 → Run Z a0 n0 p l e R s m args below meth c Ψ (D' w0 w1) cells' slots' pc' (L' w0 w1) (S' w0 w1)) → Run Z a0 n0 p l e R s m args below meth c Ψ D cells slots pc L S) : Run Z a0 n0 p l e R s m args below meth c Ψ D cells slots pc L S := b k
theorem Run.join3 {α0 : Type} {α1 : Type} {α2 : Type} {F : α0 → α1 → α2 → Prop} {D' : α0 → α1 → α2 → HD} {cells' slots' pc' : Nat} {L' : α0 → α1 → α2 → Array Slot} {S' : α0 → α1 → α2 → List Value} (k : (∀ w0 w1 w2, F w0 w1 w2 → Run Z a0 n0 p l e R s m args below meth c Ψ (D' w0 w1 w2) cells' slots' pc' (L' w0 w1 w2) (S' w0 w1 w2))) (b : (∀ w0 w1 w2, F w0 w1 w2 → Run Z a0 n0 p l e R s m args below meth c Ψ (D' w0 w1 w2) cells' slots' pc' (L' w0 w1 w2) (S' w0 w1 w2)) → Run Z a0 n0 p l e R s m args below meth c Ψ D cells slots pc L S) : Run Z a0 n0 p l e R s m args below meth c Ψ D cells slots pc L S := b k
theorem Run.join4 {α0 : Type} {α1 : Type} {α2 : Type} {α3 : Type} {F : α0 → α1 → α2 → α3 → Prop} {D' : α0 → α1 → α2 → α3 → HD} {cells' slots' pc' : Nat} {L' : α0 → α1 → α2 → α3 → Array Slot} {S' : α0 → α1 → α2 → α3 → List Value} (k : (∀ w0 w1 w2 w3, F w0 w1 w2 w3 → Run Z a0 n0 p l e R s m args below meth c Ψ (D' w0 w1 w2 w3) cells' slots' pc' (L' w0 w1 w2 w3) (S' w0 w1 w2 w3))) (b : (∀ w0 w1 w2 w3, F w0 w1 w2 w3 → Run Z a0 n0 p l e R s m args below meth c Ψ (D' w0 w1 w2 w3) cells' slots' pc' (L' w0 w1 w2 w3) (S' w0 w1 w2 w3)) → Run Z a0 n0 p l e R s m args below meth c Ψ D cells slots pc L S) : Run Z a0 n0 p l e R s m args below meth c Ψ D cells slots pc L S := b k
theorem Run.join5 {α0 : Type} {α1 : Type} {α2 : Type} {α3 : Type} {α4 : Type} {F : α0 → α1 → α2 → α3 → α4 → Prop} {D' : α0 → α1 → α2 → α3 → α4 → HD} {cells' slots' pc' : Nat} {L' : α0 → α1 → α2 → α3 → α4 → Array Slot} {S' : α0 → α1 → α2 → α3 → α4 → List Value} (k : (∀ w0 w1 w2 w3 w4, F w0 w1 w2 w3 w4 → Run Z a0 n0 p l e R s m args below meth c Ψ (D' w0 w1 w2 w3 w4) cells' slots' pc' (L' w0 w1 w2 w3 w4) (S' w0 w1 w2 w3 w4))) (b : (∀ w0 w1 w2 w3 w4, F w0 w1 w2 w3 w4 → Run Z a0 n0 p l e R s m args below meth c Ψ (D' w0 w1 w2 w3 w4) cells' slots' pc' (L' w0 w1 w2 w3 w4) (S' w0 w1 w2 w3 w4)) → Run Z a0 n0 p l e R s m args below meth c Ψ D cells slots pc L S) : Run Z a0 n0 p l e R s m args below meth c Ψ D cells slots pc L S := b k
theorem Run.join6 {α0 : Type} {α1 : Type} {α2 : Type} {α3 : Type} {α4 : Type} {α5 : Type} {F : α0 → α1 → α2 → α3 → α4 → α5 → Prop} {D' : α0 → α1 → α2 → α3 → α4 → α5 → HD} {cells' slots' pc' : Nat} {L' : α0 → α1 → α2 → α3 → α4 → α5 → Array Slot} {S' : α0 → α1 → α2 → α3 → α4 → α5 → List Value} (k : (∀ w0 w1 w2 w3 w4 w5, F w0 w1 w2 w3 w4 w5 → Run Z a0 n0 p l e R s m args below meth c Ψ (D' w0 w1 w2 w3 w4 w5) cells' slots' pc' (L' w0 w1 w2 w3 w4 w5) (S' w0 w1 w2 w3 w4 w5))) (b : (∀ w0 w1 w2 w3 w4 w5, F w0 w1 w2 w3 w4 w5 → Run Z a0 n0 p l e R s m args below meth c Ψ (D' w0 w1 w2 w3 w4 w5) cells' slots' pc' (L' w0 w1 w2 w3 w4 w5) (S' w0 w1 w2 w3 w4 w5)) → Run Z a0 n0 p l e R s m args below meth c Ψ D cells slots pc L S) : Run Z a0 n0 p l e R s m args below meth c Ψ D cells slots pc L S := b k
theorem Run.ldcI (K : Ctx Z y bytes maxL ret p s m meth c) {idx : Nat} {v : Int32} {pc' : Nat} (hd : decode bytes pc = .ok (.ldc idx, 2)) (hp : pc + 2 = pc') (w : (Jvm.Cond.constant y.cls idx v).before a0 Z = true) (k : Run Z a0 n0 p l e R s m args below meth c Ψ D cells slots pc' L (.int v :: S)) : Run Z a0 n0 p l e R s m args below meth c Ψ D cells slots pc L S := by
  subst hp
  intro T locs X N H
  obtain ⟨t, o, st, r⟩ := k T locs X N H
  exact ⟨t, o, X.ldcInt K.1 K.2.2.2.2.1 (mvT K.2.1 w) (g := mkF m pc L S) rfl (hb K.2.2.1 hd) _ st, r⟩
theorem Run.ldcJ (K : Ctx Z y bytes maxL ret p s m meth c) {idx : Nat} {v : Int64} {pc' : Nat} (hd : decode bytes pc = .ok (.ldc2_w idx, 3)) (hp : pc + 3 = pc') (w : (Jvm.Cond.constantLong y.cls idx v).before a0 Z = true) (k : Run Z a0 n0 p l e R s m args below meth c Ψ D cells slots pc' L (.long v :: S)) : Run Z a0 n0 p l e R s m args below meth c Ψ D cells slots pc L S := by
  subst hp
  intro T locs X N H
  obtain ⟨t, o, st, r⟩ := k T locs X N H
  exact ⟨t, o, X.ldc2Long K.1 K.2.2.2.2.1 (mvT K.2.1 w) (g := mkF m pc L S) rfl (hb K.2.2.1 hd) _ st, r⟩
theorem Run.getF (K : Ctx Z y bytes maxL ret p s m meth c) {idx i j : Nat} {O n d C : String} {a : Addr} {fs : List OFld} {v : Value} {pc' : Nat} (hd : decode bytes pc = .ok (.getfield idx, 3)) (hp : pc + 3 = pc') (w : (Jvm.Cond.fieldLink y.cls idx O n d).before a0 Z = true) (hi : D.1[i]? = some (a, C, fs)) (hj : fs[j]? = some (O, n, d, v)) (k : Run Z a0 n0 p l e R s m args below meth c Ψ D cells slots pc' L (v :: S)) : Run Z a0 n0 p l e R s m args below meth c Ψ D cells slots pc L (.ref a :: S) := by
  subst hp
  intro T locs X N H
  have F := ((H.2.1 _ (List.mem_of_getElem? hi)).2.2.1 _ (List.mem_of_getElem? hj)).1
  obtain ⟨T', X', e', st'⟩ := RoadKit.getF X K.1 K.2.1 K.2.2.2.2.1 (host := "") (Or.inl w) Via.refl rfl F (g := mkF m pc L (.ref a :: S)) rfl rfl (hb K.2.2.1 hd)
  obtain ⟨t, o, st, r⟩ := k T' locs X' N (by rw [e']; exact H)
  exact ⟨t, o, st' _ st, r⟩
theorem Run.putF (K : Ctx Z y bytes maxL ret p s m meth c) {idx i j kk : Nat} {O n d C : String} {a : Addr} {fs : List OFld} {v old : Value} {ty : FieldType} {pc' : Nat} {D' : HD} (hd : decode bytes pc = .ok (.putfield idx, 3)) (hp : pc + 3 = pc') (w : (Jvm.Cond.fieldLink y.cls idx O n d).before a0 Z = true) (wl : (Jvm.Cond.lays C O n d).before a0 Z = true ∨ ((Jvm.Cond.laysFinal C O n d).before a0 Z = true ∧ y.cls = O ∧ y.name = "<init>")) (wi : (Jvm.Cond.instantiable C kk).before a0 Z = true) (hty : parseFieldDescriptor d = some ty) (hn : narrow ty v = v) (hf : fits ty v = true) (hi : D.1[i]? = some (a, C, fs)) (hj : fs[j]? = some (O, n, d, old)) (hD : D' = (D.1.set i (a, C, fs.set j (O, n, d, v)), D.2)) (k : Run Z a0 n0 p l e R s m args below meth c Ψ D' cells slots pc' L S) : Run Z a0 n0 p l e R s m args below meth c Ψ D cells slots pc L (v :: .ref a :: S) := by
  subst hp hD
  intro T locs X N H
  have HO := H.2.1 _ (List.mem_of_getElem? hi)
  have F := (HO.2.2.1 _ (List.mem_of_getElem? hj)).1
  obtain ⟨T', h', X', e', W, st'⟩ := RoadKit.putF X K.1 K.2.1 K.2.2.2.2.1 (host := "") (Or.inl w) Via.refl rfl F HO.2.1 (wl.imp id fun q => ⟨q.1, q.2.1, K.2.2.2.2.2.1.trans q.2.2⟩) wi hty hn hf (g := mkF m pc L (v :: .ref a :: S)) rfl rfl (hb K.2.2.1 hd)
  obtain ⟨t, o, st, r⟩ := k T' _ X' (Fr.snoc X' N HO.1) (by rw [e']; exact H.put hi hj W)
  exact ⟨t, o, st' _ st, r⟩
theorem Run.newO (K : Ctx Z y bytes maxL ret p s m meth c) {idx n : Nat} {C : String} {fs : List OFld} {pc' cells' slots' : Nat} (hd : decode bytes pc = .ok (.new idx, 3)) (hp : pc + 3 = pc') (w : (Jvm.Cond.classLink y.cls idx C).before a0 Z = true) (wi : (Jvm.Cond.instantiable C n).before a0 Z = true) (wz : (Jvm.Cond.initialized C).before a0 Z = true) (F : FieldsOk Z a0 C fs) (e1 : cells + 1 = cells') (e2 : slots + n = slots') (hc : cells' ≤ R.cells) (hs : slots' ≤ R.slots) (k : ∀ a : Addr, Run Z a0 n0 p l e R s m args below meth c Ψ ((a, C, fs) :: D.1, D.2) cells' slots' pc' L (.ref a :: S)) : Run Z a0 n0 p l e R s m args below meth c Ψ D cells slots pc L S := by
  subst hp e1 e2
  intro T locs X N H
  obtain ⟨T', h', X', e', E, A, Dv, -, st'⟩ := RoadKit.newO X K.1 K.2.1 K.2.2.2.2.1 w wi wz rfl (g := mkF m pc L S) rfl (hb K.2.2.1 hd) hc hs
  obtain ⟨t, o, st, r⟩ := k T.heap.size T' locs X' N (by rw [e']; exact H.new E A F Dv)
  exact ⟨t, o, st' _ st, r⟩
theorem Run.newA (K : Ctx Z y bytes maxL ret p s m meth c) {aty : ArrayType} {ty : FieldType} {n : Int32} {vs : List Value} {cap : Nat} {pc' cells' slots' : Nat} (hd : decode bytes pc = .ok (.newarray aty, 2)) (hp : pc + 2 = pc') (hty : newarray.typeOf aty = ty) (w : (Jvm.Cond.arrayClass ty).before a0 Z = true) (hn : ¬ n < 0) (hvs : vs = List.replicate n.toNatClampNeg (defaultValue ty)) (hcap : n.toNatClampNeg ≤ cap) (hb8 : cap * 8 ≤ 536870912) (e1 : cells + 1 = cells') (e2 : slots + cap = slots') (hc : cells' ≤ R.cells) (hs : slots' ≤ R.slots) (hfd : fits ty (defaultValue ty) = true) (k : ∀ a : Addr, Run Z a0 n0 p l e R s m args below meth c Ψ (D.1, (a, ty, vs) :: D.2) cells' slots' pc' L (.ref a :: S)) : Run Z a0 n0 p l e R s m args below meth c Ψ D cells slots pc L (.int n :: S) := by
  subst hp e1 e2 hty hvs
  intro T locs X N H
  obtain ⟨T', h', cA, X', e', E, A, st'⟩ := RoadKit.newP X K.1 K.2.1 w rfl (g := mkF m pc L (.int n :: S)) rfl (hb K.2.2.1 hd) rfl hn hcap hb8 hc hs
  obtain ⟨t, o, st, r⟩ := k T.heap.size T' locs X' N (by
    rw [e']
    refine H.newArr E A ?_ ?_ ?_
    · simp [RoadKit.newA]
    · rw [List.length_replicate]; exact (back32 hn).2
    · intro v hv; rw [List.eq_of_mem_replicate hv]; exact hfd)
  exact ⟨t, o, st' _ st, r⟩
theorem Run.alen (K : Ctx Z y bytes maxL ret p s m meth c) {i : Nat} {a : Addr} {ty : FieldType} {vs : List Value} {w : Int32} {pc' : Nat} (hd : decode bytes pc = .ok (.arraylength, 1)) (hp : pc + 1 = pc') (hi : D.2[i]? = some (a, ty, vs)) (hw : vs.length.toInt32 = w) (k : Run Z a0 n0 p l e R s m args below meth c Ψ D cells slots pc' L (.int w :: S)) : Run Z a0 n0 p l e R s m args below meth c Ψ D cells slots pc L (.ref a :: S) := by
  subst hp hw
  intro T locs X N H
  obtain ⟨-, c', A, e1, -⟩ := H.2.2.1 _ (List.mem_of_getElem? hi)
  have q : c'.slots.size = vs.length := by rw [e1]; simp
  obtain ⟨t, o, st, r⟩ := k T locs X N H
  rw [← q] at st
  exact ⟨t, o, X.arraylength K.1 A.1 (State.isArrayOf_alike K.2.1.alike A.2.1) (g := mkF m pc L (.ref a :: S)) rfl rfl (hb K.2.2.1 hd) _ st, r⟩
theorem nar_byte (x : Int32) : nar .byte (x.toInt8.toInt32) = x.toInt8.toInt32 := by
  show (x.toInt8.toInt32).toInt8.toInt32 = x.toInt8.toInt32
  rw [Int8.toInt8_toInt32]
theorem own_bool {j : Int32} (h : j = (0 : Int32) ∨ j = (1 : Int32)) : nar .boolean j = j := by rcases h with rfl | rfl <;> decide
theorem in_of {vs : List Value} {q : Nat} {v : Value} {j : Int32} (hj : ¬ j < 0) (hq : j.toNatClampNeg = q) (hv : vs[q]? = some v) {c' : Cell} (e1 : c'.slots = vs.toArray) : ¬ (j < 0 ∨ c'.slots.size ≤ j.toNatClampNeg) ∧ c'.slots[j.toNatClampNeg]? = some v := by
  subst hq
  obtain ⟨li, ei⟩ := List.getElem?_eq_some_iff.mp hv
  refine ⟨fun z => z.elim hj fun z => ?_, by rw [e1]; simpa using hv⟩
  rw [e1] at z
  simp at z
  omega
theorem Run.baload (K : Ctx Z y bytes maxL ret p s m meth c) {i q : Nat} {a : Addr} {vs : List Value} {j : Int32} {v : Value} {pc' : Nat} (hd : decode bytes pc = .ok (.baload, 1)) (hp : pc + 1 = pc') (hi : D.2[i]? = some (a, .byte, vs)) (hj : ¬ j < 0) (hq : j.toNatClampNeg = q) (hv : vs[q]? = some v) (k : Run Z a0 n0 p l e R s m args below meth c Ψ D cells slots pc' L (v :: S)) : Run Z a0 n0 p l e R s m args below meth c Ψ D cells slots pc L (.int j :: .ref a :: S) := by
  subst hp
  intro T locs X N H
  obtain ⟨-, c', A, e1, -⟩ := H.2.2.1 _ (List.mem_of_getElem? hi)
  obtain ⟨u1, u2⟩ := in_of hj hq hv e1
  obtain ⟨t, o, st, r⟩ := k T locs X N H
  exact ⟨t, o, X.baloadBytes K.1 A.1 (State.isArrayOf_alike K.2.1.alike A.2.1) A.2.2 u1 u2 (g := mkF m pc L (.int j :: .ref a :: S)) rfl rfl (hb K.2.2.1 hd) _ st, r⟩
theorem Run.iaload (K : Ctx Z y bytes maxL ret p s m meth c) {i q : Nat} {a : Addr} {vs : List Value} {j : Int32} {v : Value} {pc' : Nat} (hd : decode bytes pc = .ok (.iaload, 1)) (hp : pc + 1 = pc') (hi : D.2[i]? = some (a, .int, vs)) (hj : ¬ j < 0) (hq : j.toNatClampNeg = q) (hv : vs[q]? = some v) (k : Run Z a0 n0 p l e R s m args below meth c Ψ D cells slots pc' L (v :: S)) : Run Z a0 n0 p l e R s m args below meth c Ψ D cells slots pc L (.int j :: .ref a :: S) := by
  subst hp
  intro T locs X N H
  obtain ⟨-, c', A, e1, -⟩ := H.2.2.1 _ (List.mem_of_getElem? hi)
  obtain ⟨u1, u2⟩ := in_of hj hq hv e1
  obtain ⟨t, o, st, r⟩ := k T locs X N H
  exact ⟨t, o, X.iaload K.1 A.1 (State.isArrayOf_alike K.2.1.alike A.2.1) A.2.2 u1 u2 (g := mkF m pc L (.int j :: .ref a :: S)) rfl rfl (hb K.2.2.1 hd) _ st, r⟩
theorem Run.laload (K : Ctx Z y bytes maxL ret p s m meth c) {i q : Nat} {a : Addr} {vs : List Value} {j : Int32} {v : Value} {pc' : Nat} (hd : decode bytes pc = .ok (.laload, 1)) (hp : pc + 1 = pc') (hi : D.2[i]? = some (a, .long, vs)) (hj : ¬ j < 0) (hq : j.toNatClampNeg = q) (hv : vs[q]? = some v) (k : Run Z a0 n0 p l e R s m args below meth c Ψ D cells slots pc' L (v :: S)) : Run Z a0 n0 p l e R s m args below meth c Ψ D cells slots pc L (.int j :: .ref a :: S) := by
  subst hp
  intro T locs X N H
  obtain ⟨-, c', A, e1, -⟩ := H.2.2.1 _ (List.mem_of_getElem? hi)
  obtain ⟨u1, u2⟩ := in_of hj hq hv e1
  obtain ⟨t, o, st, r⟩ := k T locs X N H
  exact ⟨t, o, X.laload K.1 A.1 (State.isArrayOf_alike K.2.1.alike A.2.1) A.2.2 u1 u2 (g := mkF m pc L (.int j :: .ref a :: S)) rfl rfl (hb K.2.2.1 hd) _ st, r⟩
theorem Run.zaload (K : Ctx Z y bytes maxL ret p s m meth c) {i q : Nat} {a : Addr} {vs : List Value} {j : Int32} {v : Value} {pc' : Nat} (hd : decode bytes pc = .ok (.baload, 1)) (hp : pc + 1 = pc') (hi : D.2[i]? = some (a, .boolean, vs)) (hj : ¬ j < 0) (hq : j.toNatClampNeg = q) (hv : vs[q]? = some v) (k : Run Z a0 n0 p l e R s m args below meth c Ψ D cells slots pc' L (v :: S)) : Run Z a0 n0 p l e R s m args below meth c Ψ D cells slots pc L (.int j :: .ref a :: S) := by
  subst hp
  intro T locs X N H
  obtain ⟨-, c', A, e1, -⟩ := H.2.2.1 _ (List.mem_of_getElem? hi)
  obtain ⟨u1, u2⟩ := in_of hj hq hv e1
  obtain ⟨t, o, st, r⟩ := k T locs X N H
  exact ⟨t, o, X.baloadBooleans K.1 A.1 (State.isArrayOf_alike K.2.1.alike A.2.1) A.2.2 u1 u2 (g := mkF m pc L (.int j :: .ref a :: S)) rfl rfl (hb K.2.2.1 hd) _ st, r⟩
theorem Run.caload (K : Ctx Z y bytes maxL ret p s m meth c) {i q : Nat} {a : Addr} {vs : List Value} {j : Int32} {v : Value} {pc' : Nat} (hd : decode bytes pc = .ok (.caload, 1)) (hp : pc + 1 = pc') (hi : D.2[i]? = some (a, .char, vs)) (hj : ¬ j < 0) (hq : j.toNatClampNeg = q) (hv : vs[q]? = some v) (k : Run Z a0 n0 p l e R s m args below meth c Ψ D cells slots pc' L (v :: S)) : Run Z a0 n0 p l e R s m args below meth c Ψ D cells slots pc L (.int j :: .ref a :: S) := by
  subst hp
  intro T locs X N H
  obtain ⟨-, c', A, e1, -⟩ := H.2.2.1 _ (List.mem_of_getElem? hi)
  obtain ⟨u1, u2⟩ := in_of hj hq hv e1
  obtain ⟨t, o, st, r⟩ := k T locs X N H
  exact ⟨t, o, X.caload K.1 A.1 (State.isArrayOf_alike K.2.1.alike A.2.1) A.2.2 u1 u2 (g := mkF m pc L (.int j :: .ref a :: S)) rfl rfl (hb K.2.2.1 hd) _ st, r⟩
theorem Run.bastore (K : Ctx Z y bytes maxL ret p s m meth c) {i q : Nat} {a : Addr} {vs : List Value} {j : Int32} {x : Int32} {v : Value} {pc' : Nat} {D' : HD} (hd : decode bytes pc = .ok (.bastore, 1)) (hp : pc + 1 = pc') (hi : D.2[i]? = some (a, .byte, vs)) (hj : ¬ j < 0) (hq : j.toNatClampNeg = q) (hv : vs[q]? = some v) (hD : D' = (D.1, D.2.set i (a, .byte, vs.set q (.int x.toInt8.toInt32)))) (k : Run Z a0 n0 p l e R s m args below meth c Ψ D' cells slots pc' L S) : Run Z a0 n0 p l e R s m args below meth c Ψ D cells slots pc L (.int x :: .int j :: .ref a :: S) := by
  subst hp hD
  intro T locs X N H
  have HA := H.2.2.1 _ (List.mem_of_getElem? hi)
  have g1 := HA.1
  obtain ⟨-, c', A, e1, -⟩ := HA
  obtain ⟨u1, u2⟩ := in_of hj hq hv e1
  obtain ⟨T', h', X', e', W, st'⟩ := stB X K.1 K.2.1 rfl A u1 (g := mkF m pc L (.int x :: .int j :: .ref a :: S)) rfl rfl (hb K.2.2.1 hd)
  rw [hq] at W X'
  obtain ⟨t, o, st, r⟩ := k T' _ X' (Fr.snoc X' N g1) (by rw [e']; exact H.store hi (fits_nar_byte x) W)
  exact ⟨t, o, st' _ st, r⟩
theorem Run.iastore (K : Ctx Z y bytes maxL ret p s m meth c) {i q : Nat} {a : Addr} {vs : List Value} {j : Int32} {x : Int32} {v : Value} {pc' : Nat} {D' : HD} (hd : decode bytes pc = .ok (.iastore, 1)) (hp : pc + 1 = pc') (hi : D.2[i]? = some (a, .int, vs)) (hj : ¬ j < 0) (hq : j.toNatClampNeg = q) (hv : vs[q]? = some v) (hD : D' = (D.1, D.2.set i (a, .int, vs.set q (.int x)))) (k : Run Z a0 n0 p l e R s m args below meth c Ψ D' cells slots pc' L S) : Run Z a0 n0 p l e R s m args below meth c Ψ D cells slots pc L (.int x :: .int j :: .ref a :: S) := by
  subst hp hD
  intro T locs X N H
  have HA := H.2.2.1 _ (List.mem_of_getElem? hi)
  have g1 := HA.1
  obtain ⟨-, c', A, e1, -⟩ := HA
  obtain ⟨u1, u2⟩ := in_of hj hq hv e1
  obtain ⟨T', h', X', e', W, st'⟩ := stI X K.1 K.2.1 rfl A u1 (g := mkF m pc L (.int x :: .int j :: .ref a :: S)) rfl rfl (hb K.2.2.1 hd)
  rw [hq] at W X'
  obtain ⟨t, o, st, r⟩ := k T' _ X' (Fr.snoc X' N g1) (by rw [e']; exact H.store hi (rfl) W)
  exact ⟨t, o, st' _ st, r⟩
theorem Run.lastore (K : Ctx Z y bytes maxL ret p s m meth c) {i q : Nat} {a : Addr} {vs : List Value} {j : Int32} {x : Int64} {v : Value} {pc' : Nat} {D' : HD} (hd : decode bytes pc = .ok (.lastore, 1)) (hp : pc + 1 = pc') (hi : D.2[i]? = some (a, .long, vs)) (hj : ¬ j < 0) (hq : j.toNatClampNeg = q) (hv : vs[q]? = some v) (hD : D' = (D.1, D.2.set i (a, .long, vs.set q (.long x)))) (k : Run Z a0 n0 p l e R s m args below meth c Ψ D' cells slots pc' L S) : Run Z a0 n0 p l e R s m args below meth c Ψ D cells slots pc L (.long x :: .int j :: .ref a :: S) := by
  subst hp hD
  intro T locs X N H
  have HA := H.2.2.1 _ (List.mem_of_getElem? hi)
  have g1 := HA.1
  obtain ⟨-, c', A, e1, -⟩ := HA
  obtain ⟨u1, u2⟩ := in_of hj hq hv e1
  obtain ⟨T', h', X', e', W, st'⟩ := stJ X K.1 K.2.1 rfl A u1 (g := mkF m pc L (.long x :: .int j :: .ref a :: S)) rfl rfl (hb K.2.2.1 hd)
  rw [hq] at W X'
  obtain ⟨t, o, st, r⟩ := k T' _ X' (Fr.snoc X' N g1) (by rw [e']; exact H.store hi (rfl) W)
  exact ⟨t, o, st' _ st, r⟩
theorem Run.bring (i j : Nat) {D' : HD} (hD : D' = (bringL i D.1, bringL j D.2)) (k : Run Z a0 n0 p l e R s m args below meth c Ψ D' cells slots pc L S) : Run Z a0 n0 p l e R s m args below meth c Ψ D cells slots pc L S := by
  subst hD
  intro T locs X N H
  exact k T locs X N (H.perm (bringL_perm i _) (bringL_perm j _))
theorem Run.initO (K : Ctx Z y bytes maxL ret p s m meth c) {idx : Nat} {a : Addr} {W : Nat} {pc' : Nat} (hd : decode bytes pc = .ok (.invokespecial idx, 3)) (hp : pc + 3 = pc') (w1 : (Jvm.Cond.methodLink y.cls idx Lib.objectInit).before a0 Z = true) (w2 : (Jvm.Cond.instanceMethod Lib.objectInit).before a0 Z = true) (w3 : (Jvm.Cond.code Lib.objectInit ⟨#[0xb1]⟩ 1 none).before a0 Z = true) (hsz : L.size = maxL) (hf : 1 ≤ R.frames) (hW : (S.map fun v => v.category).sum = W) (hl : W + 12 ≤ R.locals) (k : Run Z a0 n0 p l e R s m args below meth c Ψ D cells slots pc' L S) : Run Z a0 n0 p l e R s m args below meth c Ψ D cells slots pc L (.ref a :: S) := by
  subst hp
  intro T locs X N H
  obtain ⟨T', X', e', st'⟩ := RoadKit.initO X K.1 K.2.1 K.2.2.2.2.1 w1 w2 w3 rfl (g := mkF m pc L (.ref a :: S)) rfl (by rw [K.2.2.2.1]; exact hsz) rfl (hb K.2.2.1 hd) hf (W := W) (by show 2 * 0 + _ ≤ _; rw [hW]; omega) hl
  obtain ⟨t, o, st, r⟩ := k T' locs X' N (by rw [e']; exact H)
  exact ⟨t, o, st' _ st, r⟩
theorem Run.callS (K : Ctx Z y bytes maxL ret p s m meth c) {idx W : Nat} {z : MethodName} {bs : ByteArray} {mL : Nat} {rt : Option FieldType} {rm : Room} {Φ : Option Value → HD → Prop} {argsL rest : List Value} {sg : MethodDescriptor} {cells' slots' pc' : Nat} (hd : decode bytes pc = .ok (.invokestatic idx, 3)) (hp : pc + 3 = pc') (w1 : (Jvm.Cond.methodLink y.cls idx z).before a0 Z = true) (w2 : (Jvm.Cond.static z).before a0 Z = true) (w3 : (Jvm.Cond.initialized z.cls).before a0 Z = true) (w4 : (Jvm.Cond.code z bs mL rt).before a0 Z = true) (hz : z.cls ≠ "java/lang/invoke/MethodHandle" ∧ z.cls ≠ "java/lang/invoke/VarHandle") (C : Con l Z a0 n0 [] z bs mL rt rm argsL.toArray D Φ) (hS : S = argsL.reverse ++ rest) (hsz : L.size = maxL) (hsg : parseMethodDescriptor z.desc = some sg) (hlen : argsL.length = sg.parameters.length) (hW : (rest.map fun v => v.category).sum = W) (hf : rm.frames + 1 ≤ R.frames) (hl : W + (mL + 11) + rm.locals ≤ R.locals) (e1 : cells + rm.cells = cells') (e2 : slots + rm.slots = slots') (hc : cells' ≤ R.cells) (hs : slots' ≤ R.slots) (k : ∀ (v : Option Value) (D' : HD), Φ v D' → Run Z a0 n0 p l e R s m args below meth c Ψ D' cells' slots' pc' L (v.toList ++ rest)) : Run Z a0 n0 p l e R s m args below meth c Ψ D cells slots pc L S := by
  subst hp e1 e2 hS
  intro T locs X N H
  have B := backOf (R := R) (p := p) (e := e) (below := below) (s := s) (args := args) (len := 3) (W := W) (Q := fun v h L => Fr n0 L ∧ ∃ D', Φ v D' ∧ Heaped Z a0 n0 h D') (C T.heap H) K.2.1 w4 w3 hf hl
  obtain ⟨v, _, ⟨T', L', k', n'⟩, -, X', ⟨Lc, hQ, l', y', z'⟩, st'⟩ := Jvm.LawKit.callS X K.1 (y := z) K.2.2.2.2.1 (mvT K.2.1 w1) (mvT K.2.1 w2) (mvT K.2.1 w3) (mvT K.2.1 w4) hz B (g := mkF m pc L (argsL.reverse ++ rest)) rfl (by rw [K.2.2.2.1]; exact hsz) (argsL := argsL) (rest := rest) (fun sig h => by cases hsg.symm.trans h; exact hlen) rfl (by show 2 * 0 + _ ≤ _; rw [hW]; omega) (hb K.2.2.1 hd) (fun _ _ => ⟨rfl, rfl, hc, hs⟩)
  dsimp only [Pt.U, Pt.locs, Pt.cells, Pt.slots] at X' st' hQ l' y' z'
  subst l' y' z'
  obtain ⟨N', D', hΦ, H'⟩ := hQ
  obtain ⟨t, o, st, r⟩ := k v D' hΦ T' _ X' (Fr.app N N') H'
  exact ⟨t, o, st' _ st, r⟩
theorem Run.callI (K : Ctx Z y bytes maxL ret p s m meth c) {idx W : Nat} {z : MethodName} {bs : ByteArray} {mL : Nat} {rm : Room} {Φ : Option Value → HD → Prop} {argsL rest : List Value} {sg : MethodDescriptor} {cells' slots' pc' : Nat} {a : Addr} (hd : decode bytes pc = .ok (.invokespecial idx, 3)) (hp : pc + 3 = pc') (hz1 : z.name = "<init>") (w1 : (Jvm.Cond.methodLink y.cls idx z).before a0 Z = true) (w2 : (Jvm.Cond.instanceMethod z).before a0 Z = true) (w3 : (Jvm.Cond.initialized z.cls).before a0 Z = true) (w4 : (Jvm.Cond.code z bs mL none).before a0 Z = true) (hz : z.cls ≠ "java/lang/invoke/MethodHandle" ∧ z.cls ≠ "java/lang/invoke/VarHandle") (C : Con l Z a0 n0 [] z bs mL none rm (.ref a :: argsL).toArray D Φ) (hS : S = argsL.reverse ++ .ref a :: rest) (hsz : L.size = maxL) (hsg : parseMethodDescriptor z.desc = some sg) (hlen : argsL.length = sg.parameters.length) (hW : (rest.map fun v => v.category).sum = W) (hf : rm.frames + 1 ≤ R.frames) (hl : W + (mL + 11) + rm.locals ≤ R.locals) (e1 : cells + rm.cells = cells') (e2 : slots + rm.slots = slots') (hc : cells' ≤ R.cells) (hs : slots' ≤ R.slots) (k : ∀ (v : Option Value) (D' : HD), Φ v D' → Run Z a0 n0 p l e R s m args below meth c Ψ D' cells' slots' pc' L (v.toList ++ rest)) : Run Z a0 n0 p l e R s m args below meth c Ψ D cells slots pc L S := by
  subst hp e1 e2 hS
  intro T locs X N H
  have B := backOf (R := R) (p := p) (e := e) (below := below) (s := s) (args := args) (len := 3) (W := W) (Q := fun v h L => Fr n0 L ∧ ∃ D', Φ v D' ∧ Heaped Z a0 n0 h D') (C T.heap H) K.2.1 w4 w3 hf hl
  obtain ⟨v, _, ⟨T', L', k', n'⟩, -, X', ⟨Lc, hQ, l', y', z'⟩, st'⟩ := X.specialBack K.1 (y := z) hz1 K.2.2.2.2.1 (mvT K.2.1 w1) (mvT K.2.1 w2) (mvT K.2.1 w4) hz B (g := mkF m pc L (argsL.reverse ++ .ref a :: rest)) rfl (by rw [K.2.2.2.1]; exact hsz) (Steps.refl _) (a := a) (argsL := argsL) (rest := rest) (fun sig h => by cases hsg.symm.trans h; exact hlen) rfl (by show 2 * 0 + _ ≤ _; rw [hW]; omega) (hb K.2.2.1 hd) (fun _ _ => ⟨rfl, rfl, hc, hs⟩)
  dsimp only [Pt.U, Pt.locs, Pt.cells, Pt.slots] at X' st' hQ l' y' z'
  subst l' y' z'
  obtain ⟨N', D', hΦ, H'⟩ := hQ
  obtain ⟨t, o, st, r⟩ := k v D' hΦ T' _ X' (Fr.app N N') H'
  exact ⟨t, o, st'.trans st, r⟩
theorem Run.callV (K : Ctx Z y bytes maxL ret p s m meth c) {idx W : Nat} {z : MethodName} {bs : ByteArray} {mL : Nat} {rt : Option FieldType} {rm : Room} {Φ : Option Value → HD → Prop} {argsL rest : List Value} {sg : MethodDescriptor} {cells' slots' pc' : Nat} {a : Addr} {Cn : String} {fs : List OFld} {i : Nat} (hd : decode bytes pc = .ok (.invokevirtual idx, 3)) (hp : pc + 3 = pc') (w1 : (Jvm.Cond.methodLink y.cls idx z).before a0 Z = true) (w5 : (Jvm.Cond.declares z).before a0 Z = true) (w6 : (Jvm.Cond.selects Cn z z).before a0 Z = true) (w2 : (Jvm.Cond.instanceMethod z).before a0 Z = true) (w3 : (Jvm.Cond.initialized z.cls).before a0 Z = true) (w4 : (Jvm.Cond.code z bs mL rt).before a0 Z = true) (hz : z.cls ≠ "java/lang/invoke/MethodHandle" ∧ z.cls ≠ "java/lang/invoke/VarHandle") (hi : D.1[i]? = some (a, Cn, fs)) (C : Con l Z a0 n0 [] z bs mL rt rm (.ref a :: argsL).toArray D Φ) (hS : S = argsL.reverse ++ .ref a :: rest) (hsz : L.size = maxL) (hsg : parseMethodDescriptor z.desc = some sg) (hlen : argsL.length = sg.parameters.length) (hW : (rest.map fun v => v.category).sum = W) (hf : rm.frames + 1 ≤ R.frames) (hl : W + (mL + 11) + rm.locals ≤ R.locals) (e1 : cells + rm.cells = cells') (e2 : slots + rm.slots = slots') (hc : cells' ≤ R.cells) (hs : slots' ≤ R.slots) (k : ∀ (v : Option Value) (D' : HD), Φ v D' → Run Z a0 n0 p l e R s m args below meth c Ψ D' cells' slots' pc' L (v.toList ++ rest)) : Run Z a0 n0 p l e R s m args below meth c Ψ D cells slots pc L S := by
  subst hp e1 e2 hS
  intro T locs X N H
  have B := backOf (R := R) (p := p) (e := e) (below := below) (s := s) (args := args) (len := 3) (W := W) (Q := fun v h L => Fr n0 L ∧ ∃ D', Φ v D' ∧ Heaped Z a0 n0 h D') (C T.heap H) K.2.1 w4 w3 hf hl
  obtain ⟨cq, kq, q1, q2, q3⟩ := isOf (T := T) K.2.1 rfl (H.2.1 _ (List.mem_of_getElem? hi)).2.1
  obtain ⟨v, _, ⟨T', L', k', n'⟩, -, X', ⟨Lc, hQ, l', y', z'⟩, st'⟩ := X.virtualBack K.1 (y := z) (z := z) K.2.2.2.2.1 (mvT K.2.1 w1) (mvT K.2.1 w5) (notFace_of_selects (args := #[]) (mvT K.2.1 w6)) (mvT K.2.1 w6) (mvT K.2.1 w2) hz B q1 q3 (g := mkF m pc L (argsL.reverse ++ .ref a :: rest)) rfl (by rw [K.2.2.2.1]; exact hsz) (Steps.refl _) (argsL := argsL) (rest := rest) (fun sig h => by cases hsg.symm.trans h; exact hlen) rfl (by show 2 * 0 + _ ≤ _; rw [hW]; omega) (hb K.2.2.1 hd) (fun _ _ => ⟨rfl, rfl, hc, hs⟩)
  dsimp only [Pt.U, Pt.locs, Pt.cells, Pt.slots] at X' st' hQ l' y' z'
  subst l' y' z'
  obtain ⟨N', D', hΦ, H'⟩ := hQ
  obtain ⟨t, o, st, r⟩ := k v D' hΦ T' _ X' (Fr.app N N') H'
  exact ⟨t, o, st'.trans st, r⟩
theorem Run.retV (K : Ctx Z y bytes maxL ret p s m meth c)  (hd : decode bytes pc = .ok (.return_, 1)) (hret : ret = none) (hc : cells ≤ R.cells) (hs : slots ≤ R.slots) (q : Ψ none D) : Run Z a0 n0 p l e R s m args below meth c Ψ D cells slots pc L [] := by
  intro T locs X N H
  obtain ⟨fs, hr, hrun, hended, hW, hsame⟩ := X.leave (v := none) (fun _ => rfl) K.2.2.2.2.2.2.2
  exact ⟨_, _, X.returnOut K.1 (K.2.2.2.2.2.2.1.trans hret) (hb K.2.2.1 hd) hr, hrun, hended, _, _, rfl, ⟨N, D, q, H⟩, ⟨_, rfl⟩, hW, hsame.mono hc hs⟩
theorem Run.retI (K : Ctx Z y bytes maxL ret p s m meth c) {x : Int32} (hd : decode bytes pc = .ok (.ireturn, 1)) (hret : ret = some .int) (hc : cells ≤ R.cells) (hs : slots ≤ R.slots) (q : Ψ (some (.int x)) D) : Run Z a0 n0 p l e R s m args below meth c Ψ D cells slots pc L [.int x] := by
  intro T locs X N H
  obtain ⟨fs, hr, hrun, hended, hW, hsame⟩ := X.leave (v := (some (.int x))) (fun h => by rw [K.2.2.2.2.2.2.1, hret] at h; cases h) K.2.2.2.2.2.2.2
  exact ⟨_, _, X.ireturnOut K.1 (K.2.2.2.2.2.2.1.trans hret) rfl (Or.inl rfl) (hb K.2.2.1 hd) hr, hrun, hended, _, _, rfl, ⟨N, D, q, H⟩, ⟨_, rfl⟩, hW, hsame.mono hc hs⟩
theorem Run.retJ (K : Ctx Z y bytes maxL ret p s m meth c) {x : Int64} (hd : decode bytes pc = .ok (.lreturn, 1)) (hret : ret = some .long) (hc : cells ≤ R.cells) (hs : slots ≤ R.slots) (q : Ψ (some (.long x)) D) : Run Z a0 n0 p l e R s m args below meth c Ψ D cells slots pc L [.long x] := by
  intro T locs X N H
  obtain ⟨fs, hr, hrun, hended, hW, hsame⟩ := X.leave (v := (some (.long x))) (fun h => by rw [K.2.2.2.2.2.2.1, hret] at h; cases h) K.2.2.2.2.2.2.2
  exact ⟨_, _, X.lreturnOut K.1 (K.2.2.2.2.2.2.1.trans hret) (hb K.2.2.1 hd) hr, hrun, hended, _, _, rfl, ⟨N, D, q, H⟩, ⟨_, rfl⟩, hW, hsame.mono hc hs⟩
theorem Run.retN (K : Ctx Z y bytes maxL ret p s m meth c) {x w : Int32} {t : FieldType} (hd : decode bytes pc = .ok (.ireturn, 1)) (hret : ret = some t) (ht : t = .boolean ∨ t = .byte ∨ t = .char ∨ t = .short) (hw : nar t x = w) (hc : cells ≤ R.cells) (hs : slots ≤ R.slots) (q : Ψ (some (.int w)) D) : Run Z a0 n0 p l e R s m args below meth c Ψ D cells slots pc L [.int x] := by
  intro T locs X N H
  obtain ⟨fs, hr, hrun, hended, hW, hsame⟩ := X.leave (v := (some (.int w))) (fun h => by rw [K.2.2.2.2.2.2.1, hret] at h; cases h) K.2.2.2.2.2.2.2
  exact ⟨_, _, RoadKit.retN X K.1 (K.2.2.2.2.2.2.1.trans hret) ht (hb K.2.2.1 hd) (hw ▸ hr), hrun, hended, _, _, rfl, ⟨N, D, q, H⟩, ⟨_, rfl⟩, hW, hsame.mono hc hs⟩
theorem Run.retA (K : Ctx Z y bytes maxL ret p s m meth c) {x : Value} {t : FieldType} (hd : decode bytes pc = .ok (.areturn, 1)) (hret : ret = some t) (ht : t.isReference = true) (hx : x.isRef = true) (hc : cells ≤ R.cells) (hs : slots ≤ R.slots) (q : Ψ (some x) D) : Run Z a0 n0 p l e R s m args below meth c Ψ D cells slots pc L [x] := by
  intro T locs X N H
  obtain ⟨fs, hr, hrun, hended, hW, hsame⟩ := X.leave (v := (some x)) (fun h => by rw [K.2.2.2.2.2.2.1, hret] at h; cases h) K.2.2.2.2.2.2.2
  exact ⟨_, _, X.areturnOut K.1 hx (K.2.2.2.2.2.2.1.trans hret) ht (hb K.2.2.1 hd) hr, hrun, hended, _, _, rfl, ⟨N, D, q, H⟩, ⟨_, rfl⟩, hW, hsame.mono hc hs⟩
end Runs
end Jvm.Own

namespace Jvm.Pilot.@@N@@
open Jvm Jvm.ClassFile Sem Op Lib Jvm.Free Jvm.Stand Jvm.LawKit Jvm.RoadKit Jvm.Own Bundle Jvm.Pilot.@@N@@.Jvm.D
theorem own_ag (p : Int32) : 1 ≤ ((1 : Int32) + (p &&& (3 : Int32))).toInt ∧ ((1 : Int32) + (p &&& (3 : Int32))).toInt ≤ 4 := by
  have m := c_mask p (3 : Int32) 2 (by decide) (by decide)
  have a := c_iadd (1 : Int32) (p &&& (3 : Int32))
  have r := rng32 ((1 : Int32) + (p &&& (3 : Int32)))
  have o : (1 : Int32).toInt = 1 := by decide
  rw [m, o] at a
  omega
theorem own_agents (p : Int32) : ((1 : Int32) + (p &&& (3 : Int32))) ≠ (0 : Int32) := by
  intro e
  have h := own_ag p
  rw [e] at h
  exact absurd h.1 (by decide)
theorem own_agents4 (p : Int32) : ((1 : Int32) + (p &&& (3 : Int32))) ≤ (4 : Int32) := by
  rw [Int32.le_iff_toInt_le]
  exact (own_ag p).2
theorem own_ld (x p : Int32) : ((1 : Int32) + ((x &&& (2147483647 : Int32)) % ((1 : Int32) + (p &&& (3 : Int32))))) ≠ (0 : Int32) := by
  intro e
  have h := own_ag p
  have m := c_mask x (2147483647 : Int32) 31 (by decide) (by decide)
  have v := (c_iremV (x &&& (2147483647 : Int32)) ((1 : Int32) + (p &&& (3 : Int32)))).1 (by rw [m]; omega) (by omega)
  have a := c_iadd (1 : Int32) ((x &&& (2147483647 : Int32)) % ((1 : Int32) + (p &&& (3 : Int32))))
  have o : (1 : Int32).toInt = 1 := by decide
  have z : (0 : Int32).toInt = 0 := by decide
  rw [e, o, z] at a
  omega
theorem own_i2l_ne {p : Int32} (h : p ≠ (0 : Int32)) : p.toInt64 ≠ (0 : Int64) := by
  intro e
  have q := c_i2l p
  rw [e] at q
  exact h (Int32.toInt_inj.mp (by rw [← q]; decide))
theorem own_dec2 (p : Int32) (h : p ≤ (2 : Int32)) (h' : (1 : Int32) < p) : (p - (1 : Int32)) ≤ (1 : Int32) := by
  have a := c_isub p (1 : Int32)
  have r := rng32 (p - (1 : Int32))
  rw [Int32.le_iff_toInt_le] at h ⊢
  rw [Int32.lt_iff_toInt_lt] at h'
  have o : (1 : Int32).toInt = 1 := by decide
  have o2 : (2 : Int32).toInt = 2 := by decide
  omega
theorem own_dec3 (p : Int32) (h : p ≤ (3 : Int32)) (h' : (1 : Int32) < p) : (p - (1 : Int32)) ≤ (2 : Int32) := by
  have a := c_isub p (1 : Int32)
  have r := rng32 (p - (1 : Int32))
  rw [Int32.le_iff_toInt_le] at h ⊢
  rw [Int32.lt_iff_toInt_lt] at h'
  have o : (1 : Int32).toInt = 1 := by decide
  have o2 : (2 : Int32).toInt = 2 := by decide
  have o3 : (3 : Int32).toInt = 3 := by decide
  omega
theorem own_dec4 (p : Int32) (h : p ≤ (4 : Int32)) (h' : (1 : Int32) < p) : (p - (1 : Int32)) ≤ (3 : Int32) := by
  have a := c_isub p (1 : Int32)
  have r := rng32 (p - (1 : Int32))
  rw [Int32.le_iff_toInt_le] at h ⊢
  rw [Int32.lt_iff_toInt_lt] at h'
  have o : (1 : Int32).toInt = 1 := by decide
  have o3 : (3 : Int32).toInt = 3 := by decide
  have o4 : (4 : Int32).toInt = 4 := by decide
  omega
theorem own_rec {L j w0 d0 l0 w1 d1 l1 cw cd cl : Int32} {u0 s0 u1 s1 U V : Int64}
    (h : (∃ (a : Int32), ∃ (b : Int32), (j ≠ (0 : Int32)) ∧ (((L ≠ (1 : Int32)) ∧ a = w0 ∧ b = (d0 + (1 : Int32))) ∨ ((¬ (L ≠ (1 : Int32))) ∧ a = (w0 + (1 : Int32)) ∧ b = d0)) ∧ w1 = a ∧ u1 = U ∧ s1 = V ∧ l1 = l0 ∧ d1 = b) ∨ ((¬ (j ≠ (0 : Int32))) ∧ w1 = w0 ∧ u1 = u0 ∧ s1 = s0 ∧ l1 = (l0 + (1 : Int32)) ∧ d1 = d0))
    (hw : ((j = (0 : Int32)) ∧ cw = (0 : Int32)) ∨ ((¬ (j = (0 : Int32))) ∧ (L ≠ (1 : Int32)) ∧ cw = (0 : Int32)) ∨ ((¬ (j = (0 : Int32))) ∧ (¬ (L ≠ (1 : Int32))) ∧ cw = (1 : Int32)))
    (hd : ((j = (0 : Int32)) ∧ cd = (0 : Int32)) ∨ ((¬ (j = (0 : Int32))) ∧ (L = (1 : Int32)) ∧ cd = (0 : Int32)) ∨ ((¬ (j = (0 : Int32))) ∧ (¬ (L = (1 : Int32))) ∧ cd = (1 : Int32)))
    (hl : ((j = (0 : Int32)) ∧ cl = (1 : Int32)) ∨ ((¬ (j = (0 : Int32))) ∧ cl = (0 : Int32))) : w1 = w0 + cw ∧ d1 = d0 + cd ∧ l1 = l0 + cl := by
  rcases h with ⟨a, b, h1, h2, rfl, -, -, rfl, rfl⟩ | ⟨h1, rfl, -, -, rfl, rfl⟩
  · rcases hl with ⟨q, rfl⟩ | ⟨q, rfl⟩
    · exact absurd q h1
    rcases h2 with ⟨h3, rfl, rfl⟩ | ⟨h3, rfl, rfl⟩
    · rcases hw with ⟨q1, -⟩ | ⟨-, -, rfl⟩ | ⟨-, q1, -⟩
      · exact absurd q1 h1
      · rcases hd with ⟨q1, -⟩ | ⟨-, q1, -⟩ | ⟨-, -, rfl⟩
        · exact absurd q1 h1
        · exact absurd q1 h3
        · simp
      · exact absurd h3 q1
    · rcases hw with ⟨q1, -⟩ | ⟨-, q1, -⟩ | ⟨-, -, rfl⟩
      · exact absurd q1 h1
      · exact absurd q1 h3
      · rcases hd with ⟨q1, -⟩ | ⟨-, -, rfl⟩ | ⟨-, q1, -⟩
        · exact absurd q1 h1
        · simp
        · exact absurd q1 h3
  · rcases hl with ⟨q, rfl⟩ | ⟨q, rfl⟩
    · rcases hw with ⟨-, rfl⟩ | ⟨q1, -⟩ | ⟨q1, -⟩
      · rcases hd with ⟨-, rfl⟩ | ⟨q1, -⟩ | ⟨q1, -⟩
        · simp
        · exact absurd q q1
        · exact absurd q q1
      · exact absurd q q1
      · exact absurd q q1
    · exact absurd q h1
theorem own_first {m c0 c1 cf : Int32} (h : ((m = (0 : Int32)) ∧ c1 = c0) ∨ ((¬ (m = (0 : Int32))) ∧ c1 = (c0 + (1 : Int32)))) (h2 : (((m = (0 : Int32)) ∧ cf = (0 : Int32)) ∨ ((¬ (m = (0 : Int32))) ∧ cf = (1 : Int32)))) : c1 = c0 + cf := by
  rcases h2 with ⟨a, rfl⟩ | ⟨a, rfl⟩
  · rcases h with ⟨-, rfl⟩ | ⟨q, -⟩
    · simp
    · exact absurd a q
  · rcases h with ⟨q, -⟩ | ⟨-, rfl⟩
    · exact absurd q a
    · rfl
theorem own_assoc {x1 x2 x3 u v w : Int32} (h1 : x1 = (0 : Int32) + u) (h2 : x2 = (0 : Int32) + v) (h3 : x3 = x2 + w) : x1 + x3 = (u + v) + w := by
  rw [h3, h2, h1, Int32.zero_add, Int32.zero_add, Int32.add_assoc]

set_option maxHeartbeats 4000000 in
theorem own_final (p1 : Int32) (p2 : Int32) (p3 : Int32) (p4 : Int32) (p5 : Int32) (j90 : Int32) (j93 : Int32) (j96 : Int32) (j99 : Int32) (j102 : Int32) (j105 : Int32) (c107 : Int32) (c110 : Int32) (c112 : Int32) (c113 : Int32) (c114 : Int64) (c115 : Int64) (c116 : Int32) (c117 : Int32) (c119 : Int32) (c120 : Int32) (c121 : Int64) (c122 : Int64) (c123 : Int32) (c124 : Int32) (c126 : Int32) (c127 : Int32) (c128 : Int64) (c129 : Int64) (c130 : Int32) (c131 : Int32) (c133 : Int32) (c135 : Int32) (c137 : Int32) (c139 : Int32) (c141 : Int32) (c143 : Int32) (c145 : Int32) (c147 : Int32) (c149 : Int32) (c151 : Int32) (c153 : Int32) (c155 : Int32) (j163 : Int32)
    (k0 : (((p2 &&& (1 : Int32)) = (0 : Int32)) ∧ j90 = (0 : Int32)) ∨ ((¬ ((p2 &&& (1 : Int32)) = (0 : Int32))) ∧ j90 = (1 : Int32)))
    (k1 : (((p2 &&& (2 : Int32)) = (0 : Int32)) ∧ j93 = (0 : Int32)) ∨ ((¬ ((p2 &&& (2 : Int32)) = (0 : Int32))) ∧ j93 = (1 : Int32)))
    (k2 : (((p2 &&& (4 : Int32)) = (0 : Int32)) ∧ j96 = (0 : Int32)) ∨ ((¬ ((p2 &&& (4 : Int32)) = (0 : Int32))) ∧ j96 = (1 : Int32)))
    (k3 : (((p2 &&& (8 : Int32)) = (0 : Int32)) ∧ j99 = (0 : Int32)) ∨ ((¬ ((p2 &&& (8 : Int32)) = (0 : Int32))) ∧ j99 = (1 : Int32)))
    (k4 : (((p2 &&& (16 : Int32)) = (0 : Int32)) ∧ j102 = (0 : Int32)) ∨ ((¬ ((p2 &&& (16 : Int32)) = (0 : Int32))) ∧ j102 = (1 : Int32)))
    (k5 : (((p2 &&& (32 : Int32)) = (0 : Int32)) ∧ j105 = (0 : Int32)) ∨ ((¬ ((p2 &&& (32 : Int32)) = (0 : Int32))) ∧ j105 = (1 : Int32)))
    (k6 : (((j93 = (0 : Int32)) ∧ c112 = (0 : Int32)) ∨ ((¬ (j93 = (0 : Int32))) ∧ c112 = ((0 : Int32) + (1 : Int32)))) ∧ ((∃ (j29 : Int32), ∃ (j30 : Int32), (j90 ≠ (0 : Int32)) ∧ (((((1 : Int32) + ((p3 &&& (2147483647 : Int32)) % ((1 : Int32) + (p1 &&& (3 : Int32))))) ≠ (1 : Int32)) ∧ j29 = (0 : Int32) ∧ j30 = ((0 : Int32) + (1 : Int32))) ∨ ((¬ (((1 : Int32) + ((p3 &&& (2147483647 : Int32)) % ((1 : Int32) + (p1 &&& (3 : Int32))))) ≠ (1 : Int32))) ∧ j29 = ((0 : Int32) + (1 : Int32)) ∧ j30 = (0 : Int32))) ∧ c113 = j29 ∧ c114 = ((0 : Int64) + ((c107.toInt64) / (((1 : Int32) + ((p3 &&& (2147483647 : Int32)) % ((1 : Int32) + (p1 &&& (3 : Int32))))).toInt64))) ∧ c115 = ((0 : Int64) + (((c107.toInt64) / (((1 : Int32) + ((p3 &&& (2147483647 : Int32)) % ((1 : Int32) + (p1 &&& (3 : Int32))))).toInt64)) * ((c107.toInt64) / (((1 : Int32) + ((p3 &&& (2147483647 : Int32)) % ((1 : Int32) + (p1 &&& (3 : Int32))))).toInt64)))) ∧ c116 = (0 : Int32) ∧ c117 = j30) ∨ ((¬ (j90 ≠ (0 : Int32))) ∧ c113 = (0 : Int32) ∧ c114 = (0 : Int64) ∧ c115 = (0 : Int64) ∧ c116 = ((0 : Int32) + (1 : Int32)) ∧ c117 = (0 : Int32))))
    (k7 : (((j99 = (0 : Int32)) ∧ c119 = (0 : Int32)) ∨ ((¬ (j99 = (0 : Int32))) ∧ c119 = ((0 : Int32) + (1 : Int32)))) ∧ ((∃ (j29 : Int32), ∃ (j30 : Int32), (j96 ≠ (0 : Int32)) ∧ (((((1 : Int32) + ((p4 &&& (2147483647 : Int32)) % ((1 : Int32) + (p1 &&& (3 : Int32))))) ≠ (1 : Int32)) ∧ j29 = (0 : Int32) ∧ j30 = ((0 : Int32) + (1 : Int32))) ∨ ((¬ (((1 : Int32) + ((p4 &&& (2147483647 : Int32)) % ((1 : Int32) + (p1 &&& (3 : Int32))))) ≠ (1 : Int32))) ∧ j29 = ((0 : Int32) + (1 : Int32)) ∧ j30 = (0 : Int32))) ∧ c120 = j29 ∧ c121 = ((0 : Int64) + ((c110.toInt64) / (((1 : Int32) + ((p4 &&& (2147483647 : Int32)) % ((1 : Int32) + (p1 &&& (3 : Int32))))).toInt64))) ∧ c122 = ((0 : Int64) + (((c110.toInt64) / (((1 : Int32) + ((p4 &&& (2147483647 : Int32)) % ((1 : Int32) + (p1 &&& (3 : Int32))))).toInt64)) * ((c110.toInt64) / (((1 : Int32) + ((p4 &&& (2147483647 : Int32)) % ((1 : Int32) + (p1 &&& (3 : Int32))))).toInt64)))) ∧ c123 = (0 : Int32) ∧ c124 = j30) ∨ ((¬ (j96 ≠ (0 : Int32))) ∧ c120 = (0 : Int32) ∧ c121 = (0 : Int64) ∧ c122 = (0 : Int64) ∧ c123 = ((0 : Int32) + (1 : Int32)) ∧ c124 = (0 : Int32))))
    (k8 : (((j105 = (0 : Int32)) ∧ c126 = c119) ∨ ((¬ (j105 = (0 : Int32))) ∧ c126 = (c119 + (1 : Int32)))) ∧ ((∃ (j29 : Int32), ∃ (j30 : Int32), (j102 ≠ (0 : Int32)) ∧ (((((1 : Int32) + ((p5 &&& (2147483647 : Int32)) % ((1 : Int32) + (p1 &&& (3 : Int32))))) ≠ (1 : Int32)) ∧ j29 = c120 ∧ j30 = (c124 + (1 : Int32))) ∨ ((¬ (((1 : Int32) + ((p5 &&& (2147483647 : Int32)) % ((1 : Int32) + (p1 &&& (3 : Int32))))) ≠ (1 : Int32))) ∧ j29 = (c120 + (1 : Int32)) ∧ j30 = c124)) ∧ c127 = j29 ∧ c128 = (c121 + ((c110.toInt64) / (((1 : Int32) + ((p5 &&& (2147483647 : Int32)) % ((1 : Int32) + (p1 &&& (3 : Int32))))).toInt64))) ∧ c129 = (c122 + (((c110.toInt64) / (((1 : Int32) + ((p5 &&& (2147483647 : Int32)) % ((1 : Int32) + (p1 &&& (3 : Int32))))).toInt64)) * ((c110.toInt64) / (((1 : Int32) + ((p5 &&& (2147483647 : Int32)) % ((1 : Int32) + (p1 &&& (3 : Int32))))).toInt64)))) ∧ c130 = c123 ∧ c131 = j30) ∨ ((¬ (j102 ≠ (0 : Int32))) ∧ c127 = c120 ∧ c128 = c121 ∧ c129 = c122 ∧ c130 = (c123 + (1 : Int32)) ∧ c131 = c124)))
    (k9 : (((j90 = (0 : Int32)) ∧ c133 = (0 : Int32)) ∨ ((¬ (j90 = (0 : Int32))) ∧ (((1 : Int32) + ((p3 &&& (2147483647 : Int32)) % ((1 : Int32) + (p1 &&& (3 : Int32))))) ≠ (1 : Int32)) ∧ c133 = (0 : Int32)) ∨ ((¬ (j90 = (0 : Int32))) ∧ (¬ (((1 : Int32) + ((p3 &&& (2147483647 : Int32)) % ((1 : Int32) + (p1 &&& (3 : Int32))))) ≠ (1 : Int32))) ∧ c133 = (1 : Int32))))
    (k10 : (((j96 = (0 : Int32)) ∧ c135 = (0 : Int32)) ∨ ((¬ (j96 = (0 : Int32))) ∧ (((1 : Int32) + ((p4 &&& (2147483647 : Int32)) % ((1 : Int32) + (p1 &&& (3 : Int32))))) ≠ (1 : Int32)) ∧ c135 = (0 : Int32)) ∨ ((¬ (j96 = (0 : Int32))) ∧ (¬ (((1 : Int32) + ((p4 &&& (2147483647 : Int32)) % ((1 : Int32) + (p1 &&& (3 : Int32))))) ≠ (1 : Int32))) ∧ c135 = (1 : Int32))))
    (k11 : (((j102 = (0 : Int32)) ∧ c137 = (0 : Int32)) ∨ ((¬ (j102 = (0 : Int32))) ∧ (((1 : Int32) + ((p5 &&& (2147483647 : Int32)) % ((1 : Int32) + (p1 &&& (3 : Int32))))) ≠ (1 : Int32)) ∧ c137 = (0 : Int32)) ∨ ((¬ (j102 = (0 : Int32))) ∧ (¬ (((1 : Int32) + ((p5 &&& (2147483647 : Int32)) % ((1 : Int32) + (p1 &&& (3 : Int32))))) ≠ (1 : Int32))) ∧ c137 = (1 : Int32))))
    (k12 : (((j90 = (0 : Int32)) ∧ c139 = (0 : Int32)) ∨ ((¬ (j90 = (0 : Int32))) ∧ (((1 : Int32) + ((p3 &&& (2147483647 : Int32)) % ((1 : Int32) + (p1 &&& (3 : Int32))))) = (1 : Int32)) ∧ c139 = (0 : Int32)) ∨ ((¬ (j90 = (0 : Int32))) ∧ (¬ (((1 : Int32) + ((p3 &&& (2147483647 : Int32)) % ((1 : Int32) + (p1 &&& (3 : Int32))))) = (1 : Int32))) ∧ c139 = (1 : Int32))))
    (k13 : (((j96 = (0 : Int32)) ∧ c141 = (0 : Int32)) ∨ ((¬ (j96 = (0 : Int32))) ∧ (((1 : Int32) + ((p4 &&& (2147483647 : Int32)) % ((1 : Int32) + (p1 &&& (3 : Int32))))) = (1 : Int32)) ∧ c141 = (0 : Int32)) ∨ ((¬ (j96 = (0 : Int32))) ∧ (¬ (((1 : Int32) + ((p4 &&& (2147483647 : Int32)) % ((1 : Int32) + (p1 &&& (3 : Int32))))) = (1 : Int32))) ∧ c141 = (1 : Int32))))
    (k14 : (((j102 = (0 : Int32)) ∧ c143 = (0 : Int32)) ∨ ((¬ (j102 = (0 : Int32))) ∧ (((1 : Int32) + ((p5 &&& (2147483647 : Int32)) % ((1 : Int32) + (p1 &&& (3 : Int32))))) = (1 : Int32)) ∧ c143 = (0 : Int32)) ∨ ((¬ (j102 = (0 : Int32))) ∧ (¬ (((1 : Int32) + ((p5 &&& (2147483647 : Int32)) % ((1 : Int32) + (p1 &&& (3 : Int32))))) = (1 : Int32))) ∧ c143 = (1 : Int32))))
    (k15 : (((j90 = (0 : Int32)) ∧ c145 = (1 : Int32)) ∨ ((¬ (j90 = (0 : Int32))) ∧ c145 = (0 : Int32))))
    (k16 : (((j96 = (0 : Int32)) ∧ c147 = (1 : Int32)) ∨ ((¬ (j96 = (0 : Int32))) ∧ c147 = (0 : Int32))))
    (k17 : (((j102 = (0 : Int32)) ∧ c149 = (1 : Int32)) ∨ ((¬ (j102 = (0 : Int32))) ∧ c149 = (0 : Int32))))
    (k18 : (((j93 = (0 : Int32)) ∧ c151 = (0 : Int32)) ∨ ((¬ (j93 = (0 : Int32))) ∧ c151 = (1 : Int32))))
    (k19 : (((j99 = (0 : Int32)) ∧ c153 = (0 : Int32)) ∨ ((¬ (j99 = (0 : Int32))) ∧ c153 = (1 : Int32))))
    (k20 : (((j105 = (0 : Int32)) ∧ c155 = (0 : Int32)) ∨ ((¬ (j105 = (0 : Int32))) ∧ c155 = (1 : Int32))))
    (k21 : (((((0 : Int32) + (1 : Int32)) + (((0 : Int32) + (1 : Int32)) + (1 : Int32))) ≠ (3 : Int32)) ∧ j163 = (0 : Int32)) ∨ ((¬ ((((0 : Int32) + (1 : Int32)) + (((0 : Int32) + (1 : Int32)) + (1 : Int32))) ≠ (3 : Int32))) ∧ ((c113 + c127) ≠ ((c133 + c135) + c137)) ∧ j163 = (0 : Int32)) ∨ ((¬ ((((0 : Int32) + (1 : Int32)) + (((0 : Int32) + (1 : Int32)) + (1 : Int32))) ≠ (3 : Int32))) ∧ (¬ ((c113 + c127) ≠ ((c133 + c135) + c137))) ∧ ((c117 + c131) ≠ ((c139 + c141) + c143)) ∧ j163 = (0 : Int32)) ∨ ((¬ ((((0 : Int32) + (1 : Int32)) + (((0 : Int32) + (1 : Int32)) + (1 : Int32))) ≠ (3 : Int32))) ∧ (¬ ((c113 + c127) ≠ ((c133 + c135) + c137))) ∧ (¬ ((c117 + c131) ≠ ((c139 + c141) + c143))) ∧ ((c116 + c130) ≠ ((c145 + c147) + c149)) ∧ j163 = (0 : Int32)) ∨ ((¬ ((((0 : Int32) + (1 : Int32)) + (((0 : Int32) + (1 : Int32)) + (1 : Int32))) ≠ (3 : Int32))) ∧ (¬ ((c113 + c127) ≠ ((c133 + c135) + c137))) ∧ (¬ ((c117 + c131) ≠ ((c139 + c141) + c143))) ∧ (¬ ((c116 + c130) ≠ ((c145 + c147) + c149))) ∧ ((c112 + c126) ≠ ((c151 + c153) + c155)) ∧ j163 = (0 : Int32)) ∨ ((¬ ((((0 : Int32) + (1 : Int32)) + (((0 : Int32) + (1 : Int32)) + (1 : Int32))) ≠ (3 : Int32))) ∧ (¬ ((c113 + c127) ≠ ((c133 + c135) + c137))) ∧ (¬ ((c117 + c131) ≠ ((c139 + c141) + c143))) ∧ (¬ ((c116 + c130) ≠ ((c145 + c147) + c149))) ∧ (¬ ((c112 + c126) ≠ ((c151 + c153) + c155))) ∧ j163 = (1 : Int32))) :
    j163 = (1 : Int32) := by
  obtain ⟨a1, a2, a3⟩ := own_rec k6.2 k9 k12 k15
  obtain ⟨b1, b2, b3⟩ := own_rec k7.2 k10 k13 k16
  obtain ⟨c1, c2, c3⟩ := own_rec k8.2 k11 k14 k17
  have d1 := own_first k6.1 k18
  have d2 := own_first k7.1 k19
  have d3 := own_first k8.1 k20
  rcases k21 with ⟨h, -⟩ | ⟨-, h, -⟩ | ⟨-, -, h, -⟩ | ⟨-, -, -, h, -⟩ | ⟨-, -, -, -, h, -⟩ | ⟨-, -, -, -, -, h⟩
  · exact absurd (by decide) h
  · exact absurd (own_assoc a1 b1 c1) h
  · exact absurd (own_assoc a2 b2 c2) h
  · exact absurd (own_assoc a3 b3 c3) h
  · exact absurd (own_assoc d1 d2 d3) h
  · exact h
theorem d3_0 : decode prog_39_method_8_code 0 = .ok (.iload_n 0, 1) := by decide +kernel
theorem d3_1 : decode prog_39_method_8_code 1 = .ok (.iconst 1, 1) := by decide +kernel
theorem d3_2 : decode prog_39_method_8_code 2 = .ok (.if_icmp .gt 7, 3) := by decide +kernel
theorem d3_5 : decode prog_39_method_8_code 5 = .ok (.iconst 1, 1) := by decide +kernel
theorem d3_6 : decode prog_39_method_8_code 6 = .ok (.goto 11, 3) := by decide +kernel
theorem d3_9 : decode prog_39_method_8_code 9 = .ok (.iload_n 0, 1) := by decide +kernel
theorem d3_10 : decode prog_39_method_8_code 10 = .ok (.iload_n 0, 1) := by decide +kernel
theorem d3_11 : decode prog_39_method_8_code 11 = .ok (.iconst 1, 1) := by decide +kernel
theorem d3_12 : decode prog_39_method_8_code 12 = .ok (.isub, 1) := by decide +kernel
theorem d3_13 : decode prog_39_method_8_code 13 = .ok (.invokestatic 7, 3) := by decide +kernel
theorem d3_16 : decode prog_39_method_8_code 16 = .ok (.imul, 1) := by decide +kernel
theorem d3_17 : decode prog_39_method_8_code 17 = .ok (.ireturn, 1) := by decide +kernel
theorem pn_0 : plainName "treetune/match/Match" = true := by first | (simp [plainName, overriddenIn]; done) | decide +kernel
set_option maxRecDepth 65536 in
set_option maxHeartbeats 40000000 in
theorem fac1 (l : Launch) (Z : State) (a0 : Array Value) (n0 : Nat) (hw : ∀ d ∈ tables_1, d.before a0 Z = true) (ws : List Jvm.Cond) (p1 : Int32) (Ob : List OObj) (Ax : List OArr) (hn : p1 ≤ (1 : Int32)) : Con l Z a0 n0 ws (⟨"treetune/match/Match", "factorial", "(I)I"⟩ : MethodName) prog_39_method_8_code 1 (some .int) ({ frames := 0, cells := 0, slots := 0, locals := 0 } : Room) #[(.int p1)] (Ob, Ax) (fun vq Dq => ∃ (w : Int32), vq = (some (.int w)) ∧ Dq = (Ob, Ax)) := by
  refine Con.of_run (plainFor_of_name pn_0) (L0 := #[.val (.int p1)]) (fun m => by first | (simp [entryFrame, mkF, argsToLocals, Value.category]; done) | rfl) ?_
  intro p e s m below meth c K
  refine Run.iloadN K d3_0 (pc' := 1) rfl rfl ?_
  refine Run.iconst K d3_1 (pc' := 2) rfl (v := (1 : Int32)) rfl ?_
  refine Run.icmpF K d3_2 (pT := 9) (pF := 5) (by decide) (by decide) rfl (show ¬ ((1 : Int32) < p1) from fun h => absurd hn (Int32.not_le.mpr h)) ?_
  refine Run.iconst K d3_5 (pc' := 6) rfl (v := (1 : Int32)) rfl ?_
  refine Run.goto K d3_6 (pc' := 17) (by decide) (by decide) ?_
  exact Run.retI K d3_17 rfl (by decide) (by decide) ⟨_, rfl, rfl⟩
theorem pd_0 : parseMethodDescriptor "(I)I" = some ⟨[.int], some .int⟩ := by decide +kernel
set_option maxRecDepth 65536 in
set_option maxHeartbeats 40000000 in
theorem fac2 (l : Launch) (Z : State) (a0 : Array Value) (n0 : Nat) (hw : ∀ d ∈ tables_1, d.before a0 Z = true) (ws : List Jvm.Cond) (p1 : Int32) (Ob : List OObj) (Ax : List OArr) (hn : p1 ≤ (2 : Int32)) : Con l Z a0 n0 ws (⟨"treetune/match/Match", "factorial", "(I)I"⟩ : MethodName) prog_39_method_8_code 1 (some .int) ({ frames := 1, cells := 0, slots := 0, locals := 13 } : Room) #[(.int p1)] (Ob, Ax) (fun vq Dq => ∃ (w : Int32), vq = (some (.int w)) ∧ Dq = (Ob, Ax)) := by
  refine Con.of_run (plainFor_of_name pn_0) (L0 := #[.val (.int p1)]) (fun m => by first | (simp [entryFrame, mkF, argsToLocals, Value.category]; done) | rfl) ?_
  intro p e s m below meth c K
  refine Run.iloadN K d3_0 (pc' := 1) rfl rfl ?_
  refine Run.iconst K d3_1 (pc' := 2) rfl (v := (1 : Int32)) rfl ?_
  refine Run.icmp K d3_2 (pT := 9) (pF := 5) (by decide) (by decide) rfl (fun (h2_3 : (1 : Int32) < p1) => ?_) (fun (h2_3 : ¬ ((1 : Int32) < p1)) => ?_)
  · skip
    refine Run.iloadN K d3_9 (pc' := 10) rfl rfl ?_
    refine Run.iloadN K d3_10 (pc' := 11) rfl rfl ?_
    refine Run.iconst K d3_11 (pc' := 12) rfl (v := (1 : Int32)) rfl ?_
    refine Run.isub K d3_12 (pc' := 13) rfl ?_
    refine Run.callS K d3_13 (pc' := 16) rfl (hw _ (List.mem_of_getElem? (i := 86) rfl)) (hw _ (List.mem_of_getElem? (i := 11) rfl)) (hw _ (List.mem_of_getElem? (i := 12) rfl)) (hw _ (List.mem_of_getElem? (i := 13) rfl)) (by decide) (fac1 l Z a0 n0 hw [] ((p1 - (1 : Int32))) (Ob) (Ax) (own_dec2 p1 hn h2_3)) (argsL := [(.int (p1 - (1 : Int32)))]) (rest := [(.int p1)]) rfl rfl pd_0 rfl (W := 1) rfl (by decide) (by decide) (cells' := 0) (slots' := 0) rfl rfl (by decide) (by decide) ?_
    intro vq Dq hq
    obtain ⟨c5, rfl, rfl⟩ := hq
    refine Run.as2 (D' := (Ob, Ax)) (S' := [(.int c5), (.int p1)]) rfl rfl ?_
    refine Run.imul K d3_16 (pc' := 17) rfl ?_
    exact Run.retI K d3_17 rfl (by decide) (by decide) ⟨_, rfl, rfl⟩
  · skip
    refine Run.iconst K d3_5 (pc' := 6) rfl (v := (1 : Int32)) rfl ?_
    refine Run.goto K d3_6 (pc' := 17) (by decide) (by decide) ?_
    exact Run.retI K d3_17 rfl (by decide) (by decide) ⟨_, rfl, rfl⟩
set_option maxRecDepth 65536 in
set_option maxHeartbeats 40000000 in
theorem fac3 (l : Launch) (Z : State) (a0 : Array Value) (n0 : Nat) (hw : ∀ d ∈ tables_1, d.before a0 Z = true) (ws : List Jvm.Cond) (p1 : Int32) (Ob : List OObj) (Ax : List OArr) (hn : p1 ≤ (3 : Int32)) : Con l Z a0 n0 ws (⟨"treetune/match/Match", "factorial", "(I)I"⟩ : MethodName) prog_39_method_8_code 1 (some .int) ({ frames := 2, cells := 0, slots := 0, locals := 26 } : Room) #[(.int p1)] (Ob, Ax) (fun vq Dq => ∃ (w : Int32), vq = (some (.int w)) ∧ Dq = (Ob, Ax)) := by
  refine Con.of_run (plainFor_of_name pn_0) (L0 := #[.val (.int p1)]) (fun m => by first | (simp [entryFrame, mkF, argsToLocals, Value.category]; done) | rfl) ?_
  intro p e s m below meth c K
  refine Run.iloadN K d3_0 (pc' := 1) rfl rfl ?_
  refine Run.iconst K d3_1 (pc' := 2) rfl (v := (1 : Int32)) rfl ?_
  refine Run.icmp K d3_2 (pT := 9) (pF := 5) (by decide) (by decide) rfl (fun (h2_9 : (1 : Int32) < p1) => ?_) (fun (h2_9 : ¬ ((1 : Int32) < p1)) => ?_)
  · skip
    refine Run.iloadN K d3_9 (pc' := 10) rfl rfl ?_
    refine Run.iloadN K d3_10 (pc' := 11) rfl rfl ?_
    refine Run.iconst K d3_11 (pc' := 12) rfl (v := (1 : Int32)) rfl ?_
    refine Run.isub K d3_12 (pc' := 13) rfl ?_
    refine Run.callS K d3_13 (pc' := 16) rfl (hw _ (List.mem_of_getElem? (i := 86) rfl)) (hw _ (List.mem_of_getElem? (i := 11) rfl)) (hw _ (List.mem_of_getElem? (i := 12) rfl)) (hw _ (List.mem_of_getElem? (i := 13) rfl)) (by decide) (fac2 l Z a0 n0 hw [] ((p1 - (1 : Int32))) (Ob) (Ax) (own_dec3 p1 hn h2_9)) (argsL := [(.int (p1 - (1 : Int32)))]) (rest := [(.int p1)]) rfl rfl pd_0 rfl (W := 1) rfl (by decide) (by decide) (cells' := 0) (slots' := 0) rfl rfl (by decide) (by decide) ?_
    intro vq Dq hq
    obtain ⟨c11, rfl, rfl⟩ := hq
    refine Run.as2 (D' := (Ob, Ax)) (S' := [(.int c11), (.int p1)]) rfl rfl ?_
    refine Run.imul K d3_16 (pc' := 17) rfl ?_
    exact Run.retI K d3_17 rfl (by decide) (by decide) ⟨_, rfl, rfl⟩
  · skip
    refine Run.iconst K d3_5 (pc' := 6) rfl (v := (1 : Int32)) rfl ?_
    refine Run.goto K d3_6 (pc' := 17) (by decide) (by decide) ?_
    exact Run.retI K d3_17 rfl (by decide) (by decide) ⟨_, rfl, rfl⟩
set_option maxRecDepth 65536 in
set_option maxHeartbeats 40000000 in
theorem fac4 (l : Launch) (Z : State) (a0 : Array Value) (n0 : Nat) (hw : ∀ d ∈ tables_1, d.before a0 Z = true) (ws : List Jvm.Cond) (p1 : Int32) (Ob : List OObj) (Ax : List OArr) (hn : p1 ≤ (4 : Int32)) : Con l Z a0 n0 ws (⟨"treetune/match/Match", "factorial", "(I)I"⟩ : MethodName) prog_39_method_8_code 1 (some .int) ({ frames := 3, cells := 0, slots := 0, locals := 39 } : Room) #[(.int p1)] (Ob, Ax) (fun vq Dq => ∃ (w : Int32), vq = (some (.int w)) ∧ Dq = (Ob, Ax)) := by
  refine Con.of_run (plainFor_of_name pn_0) (L0 := #[.val (.int p1)]) (fun m => by first | (simp [entryFrame, mkF, argsToLocals, Value.category]; done) | rfl) ?_
  intro p e s m below meth c K
  refine Run.iloadN K d3_0 (pc' := 1) rfl rfl ?_
  refine Run.iconst K d3_1 (pc' := 2) rfl (v := (1 : Int32)) rfl ?_
  refine Run.icmp K d3_2 (pT := 9) (pF := 5) (by decide) (by decide) rfl (fun (h2_15 : (1 : Int32) < p1) => ?_) (fun (h2_15 : ¬ ((1 : Int32) < p1)) => ?_)
  · skip
    refine Run.iloadN K d3_9 (pc' := 10) rfl rfl ?_
    refine Run.iloadN K d3_10 (pc' := 11) rfl rfl ?_
    refine Run.iconst K d3_11 (pc' := 12) rfl (v := (1 : Int32)) rfl ?_
    refine Run.isub K d3_12 (pc' := 13) rfl ?_
    refine Run.callS K d3_13 (pc' := 16) rfl (hw _ (List.mem_of_getElem? (i := 86) rfl)) (hw _ (List.mem_of_getElem? (i := 11) rfl)) (hw _ (List.mem_of_getElem? (i := 12) rfl)) (hw _ (List.mem_of_getElem? (i := 13) rfl)) (by decide) (fac3 l Z a0 n0 hw [] ((p1 - (1 : Int32))) (Ob) (Ax) (own_dec4 p1 hn h2_15)) (argsL := [(.int (p1 - (1 : Int32)))]) (rest := [(.int p1)]) rfl rfl pd_0 rfl (W := 1) rfl (by decide) (by decide) (cells' := 0) (slots' := 0) rfl rfl (by decide) (by decide) ?_
    intro vq Dq hq
    obtain ⟨c17, rfl, rfl⟩ := hq
    refine Run.as2 (D' := (Ob, Ax)) (S' := [(.int c17), (.int p1)]) rfl rfl ?_
    refine Run.imul K d3_16 (pc' := 17) rfl ?_
    exact Run.retI K d3_17 rfl (by decide) (by decide) ⟨_, rfl, rfl⟩
  · skip
    refine Run.iconst K d3_5 (pc' := 6) rfl (v := (1 : Int32)) rfl ?_
    refine Run.goto K d3_6 (pc' := 17) (by decide) (by decide) ?_
    exact Run.retI K d3_17 rfl (by decide) (by decide) ⟨_, rfl, rfl⟩
theorem d1_0 : decode prog_42_method_1_code 0 = .ok (.aload_n 0, 1) := by decide +kernel
theorem d1_1 : decode prog_42_method_1_code 1 = .ok (.invokespecial 1, 3) := by decide +kernel
theorem d1_4 : decode prog_42_method_1_code 4 = .ok (.aload_n 0, 1) := by decide +kernel
theorem d1_5 : decode prog_42_method_1_code 5 = .ok (.iload_n 1, 1) := by decide +kernel
theorem d1_6 : decode prog_42_method_1_code 6 = .ok (.invokestatic 7, 3) := by decide +kernel
theorem d1_9 : decode prog_42_method_1_code 9 = .ok (.i2l, 1) := by decide +kernel
theorem d1_10 : decode prog_42_method_1_code 10 = .ok (.putfield 13, 3) := by decide +kernel
theorem d1_13 : decode prog_42_method_1_code 13 = .ok (.return_, 1) := by decide +kernel
theorem pn_1 : plainName "treetune/match/Standing" = true := by first | (simp [plainName, overriddenIn]; done) | decide +kernel
set_option maxRecDepth 65536 in
set_option maxHeartbeats 40000000 in
theorem rm1 (l : Launch) (Z : State) (a0 : Array Value) (n0 : Nat) (hw : ∀ d ∈ tables_1, d.before a0 Z = true) (ws : List Jvm.Cond) (a1 : Addr) (p1 : Int32) (a1_unitsPerPoint : Int64) (a1_games : Int32) (a1_first : Int32) (a1_wins : Int32) (a1_units : Int64) (a1_squaredUnits : Int64) (a1_losses : Int32) (a1_draws : Int32) (a1_moves : Int64) (a1_simulations : Int64) (a1_positions : Int64) (a1_decidingNanos : Int64) (Ob : List OObj) (Ax : List OArr) (hn : p1 ≤ (4 : Int32)) : Con l Z a0 n0 ws (⟨"treetune/match/Standing", "<init>", "(I)V"⟩ : MethodName) prog_42_method_1_code 2 none ({ frames := 4, cells := 0, slots := 0, locals := 52 } : Room) #[(.ref a1), (.int p1)] ((a1, "treetune/match/Standing", [("treetune/match/Standing", "unitsPerPoint", "J", (.long a1_unitsPerPoint)), ("treetune/match/Standing", "games", "I", (.int a1_games)), ("treetune/match/Standing", "first", "I", (.int a1_first)), ("treetune/match/Standing", "wins", "I", (.int a1_wins)), ("treetune/match/Standing", "units", "J", (.long a1_units)), ("treetune/match/Standing", "squaredUnits", "J", (.long a1_squaredUnits)), ("treetune/match/Standing", "losses", "I", (.int a1_losses)), ("treetune/match/Standing", "draws", "I", (.int a1_draws)), ("treetune/match/Standing", "moves", "J", (.long a1_moves)), ("treetune/match/Standing", "simulations", "J", (.long a1_simulations)), ("treetune/match/Standing", "positions", "J", (.long a1_positions)), ("treetune/match/Standing", "decidingNanos", "J", (.long a1_decidingNanos))]) :: Ob, Ax) (fun vq Dq => ∃ (c19 : Int32), vq = none ∧ Dq = ((a1, "treetune/match/Standing", [("treetune/match/Standing", "unitsPerPoint", "J", (.long (c19.toInt64))), ("treetune/match/Standing", "games", "I", (.int a1_games)), ("treetune/match/Standing", "first", "I", (.int a1_first)), ("treetune/match/Standing", "wins", "I", (.int a1_wins)), ("treetune/match/Standing", "units", "J", (.long a1_units)), ("treetune/match/Standing", "squaredUnits", "J", (.long a1_squaredUnits)), ("treetune/match/Standing", "losses", "I", (.int a1_losses)), ("treetune/match/Standing", "draws", "I", (.int a1_draws)), ("treetune/match/Standing", "moves", "J", (.long a1_moves)), ("treetune/match/Standing", "simulations", "J", (.long a1_simulations)), ("treetune/match/Standing", "positions", "J", (.long a1_positions)), ("treetune/match/Standing", "decidingNanos", "J", (.long a1_decidingNanos))]) :: Ob, Ax)) := by
  refine Con.of_run (plainFor_of_name pn_1) (L0 := #[.val (.ref a1), .val (.int p1)]) (fun m => by first | (simp [entryFrame, mkF, argsToLocals, Value.category]; done) | rfl) ?_
  intro p e s m below meth c K
  refine Run.aloadN K d1_0 (pc' := 1) rfl rfl rfl ?_
  refine Run.initO K d1_1 (pc' := 4) rfl (hw _ (List.mem_of_getElem? (i := 7) rfl)) (hw _ (List.mem_of_getElem? (i := 8) rfl)) (hw _ (List.mem_of_getElem? (i := 9) rfl)) rfl (by decide) (W := 0) rfl (by decide) ?_
  refine Run.aloadN K d1_4 (pc' := 5) rfl rfl rfl ?_
  refine Run.iloadN K d1_5 (pc' := 6) rfl rfl ?_
  refine Run.callS K d1_6 (pc' := 9) rfl (hw _ (List.mem_of_getElem? (i := 10) rfl)) (hw _ (List.mem_of_getElem? (i := 11) rfl)) (hw _ (List.mem_of_getElem? (i := 12) rfl)) (hw _ (List.mem_of_getElem? (i := 13) rfl)) (by decide) (fac4 l Z a0 n0 hw [] (p1) ((a1, "treetune/match/Standing", [("treetune/match/Standing", "unitsPerPoint", "J", (.long a1_unitsPerPoint)), ("treetune/match/Standing", "games", "I", (.int a1_games)), ("treetune/match/Standing", "first", "I", (.int a1_first)), ("treetune/match/Standing", "wins", "I", (.int a1_wins)), ("treetune/match/Standing", "units", "J", (.long a1_units)), ("treetune/match/Standing", "squaredUnits", "J", (.long a1_squaredUnits)), ("treetune/match/Standing", "losses", "I", (.int a1_losses)), ("treetune/match/Standing", "draws", "I", (.int a1_draws)), ("treetune/match/Standing", "moves", "J", (.long a1_moves)), ("treetune/match/Standing", "simulations", "J", (.long a1_simulations)), ("treetune/match/Standing", "positions", "J", (.long a1_positions)), ("treetune/match/Standing", "decidingNanos", "J", (.long a1_decidingNanos))]) :: Ob) (Ax) (hn)) (argsL := [(.int p1)]) (rest := [(.ref a1)]) rfl rfl pd_0 rfl (W := 1) rfl (by decide) (by decide) (cells' := 0) (slots' := 0) rfl rfl (by decide) (by decide) ?_
  intro vq Dq hq
  obtain ⟨c21, rfl, rfl⟩ := hq
  refine Run.as2 (D' := ((a1, "treetune/match/Standing", [("treetune/match/Standing", "unitsPerPoint", "J", (.long a1_unitsPerPoint)), ("treetune/match/Standing", "games", "I", (.int a1_games)), ("treetune/match/Standing", "first", "I", (.int a1_first)), ("treetune/match/Standing", "wins", "I", (.int a1_wins)), ("treetune/match/Standing", "units", "J", (.long a1_units)), ("treetune/match/Standing", "squaredUnits", "J", (.long a1_squaredUnits)), ("treetune/match/Standing", "losses", "I", (.int a1_losses)), ("treetune/match/Standing", "draws", "I", (.int a1_draws)), ("treetune/match/Standing", "moves", "J", (.long a1_moves)), ("treetune/match/Standing", "simulations", "J", (.long a1_simulations)), ("treetune/match/Standing", "positions", "J", (.long a1_positions)), ("treetune/match/Standing", "decidingNanos", "J", (.long a1_decidingNanos))]) :: Ob, Ax)) (S' := [(.int c21), (.ref a1)]) rfl rfl ?_
  refine Run.i2l K d1_9 (pc' := 10) rfl ?_
  refine Run.putF K d1_10 (pc' := 13) rfl (hw _ (List.mem_of_getElem? (i := 14) rfl)) (Or.inr ⟨(hw _ (List.mem_of_getElem? (i := 15) rfl)), rfl, rfl⟩) (hw _ (List.mem_of_getElem? (i := 2) rfl)) (ty := .long) (by decide) rfl rfl (i := 0) (j := 0) rfl rfl (D' := ((a1, "treetune/match/Standing", [("treetune/match/Standing", "unitsPerPoint", "J", (.long (c21.toInt64))), ("treetune/match/Standing", "games", "I", (.int a1_games)), ("treetune/match/Standing", "first", "I", (.int a1_first)), ("treetune/match/Standing", "wins", "I", (.int a1_wins)), ("treetune/match/Standing", "units", "J", (.long a1_units)), ("treetune/match/Standing", "squaredUnits", "J", (.long a1_squaredUnits)), ("treetune/match/Standing", "losses", "I", (.int a1_losses)), ("treetune/match/Standing", "draws", "I", (.int a1_draws)), ("treetune/match/Standing", "moves", "J", (.long a1_moves)), ("treetune/match/Standing", "simulations", "J", (.long a1_simulations)), ("treetune/match/Standing", "positions", "J", (.long a1_positions)), ("treetune/match/Standing", "decidingNanos", "J", (.long a1_decidingNanos))]) :: Ob, Ax)) rfl ?_
  exact Run.retV K d1_13 rfl (by decide) (by decide) ⟨c21, rfl, rfl⟩
theorem d4_0 : decode prog_42_method_2_code 0 = .ok (.aload_n 0, 1) := by decide +kernel
theorem d4_1 : decode prog_42_method_2_code 1 = .ok (.dup, 1) := by decide +kernel
theorem d4_2 : decode prog_42_method_2_code 2 = .ok (.getfield 19, 3) := by decide +kernel
theorem d4_5 : decode prog_42_method_2_code 5 = .ok (.iconst 1, 1) := by decide +kernel
theorem d4_6 : decode prog_42_method_2_code 6 = .ok (.iadd, 1) := by decide +kernel
theorem d4_7 : decode prog_42_method_2_code 7 = .ok (.putfield 19, 3) := by decide +kernel
theorem d4_10 : decode prog_42_method_2_code 10 = .ok (.iload_n 3, 1) := by decide +kernel
theorem d4_11 : decode prog_42_method_2_code 11 = .ok (.ifCond .eq 13, 3) := by decide +kernel
theorem d4_14 : decode prog_42_method_2_code 14 = .ok (.aload_n 0, 1) := by decide +kernel
theorem d4_15 : decode prog_42_method_2_code 15 = .ok (.dup, 1) := by decide +kernel
theorem d4_16 : decode prog_42_method_2_code 16 = .ok (.getfield 23, 3) := by decide +kernel
theorem d4_19 : decode prog_42_method_2_code 19 = .ok (.iconst 1, 1) := by decide +kernel
theorem d4_20 : decode prog_42_method_2_code 20 = .ok (.iadd, 1) := by decide +kernel
theorem d4_21 : decode prog_42_method_2_code 21 = .ok (.putfield 23, 3) := by decide +kernel
theorem d4_24 : decode prog_42_method_2_code 24 = .ok (.iload_n 1, 1) := by decide +kernel
theorem d4_25 : decode prog_42_method_2_code 25 = .ok (.ifCond .ne 14, 3) := by decide +kernel
theorem d4_28 : decode prog_42_method_2_code 28 = .ok (.aload_n 0, 1) := by decide +kernel
theorem d4_29 : decode prog_42_method_2_code 29 = .ok (.dup, 1) := by decide +kernel
theorem d4_30 : decode prog_42_method_2_code 30 = .ok (.getfield 26, 3) := by decide +kernel
theorem d4_33 : decode prog_42_method_2_code 33 = .ok (.iconst 1, 1) := by decide +kernel
theorem d4_34 : decode prog_42_method_2_code 34 = .ok (.iadd, 1) := by decide +kernel
theorem d4_35 : decode prog_42_method_2_code 35 = .ok (.putfield 26, 3) := by decide +kernel
theorem d4_38 : decode prog_42_method_2_code 38 = .ok (.return_, 1) := by decide +kernel
theorem d4_39 : decode prog_42_method_2_code 39 = .ok (.iload_n 2, 1) := by decide +kernel
theorem d4_40 : decode prog_42_method_2_code 40 = .ok (.iconst 1, 1) := by decide +kernel
theorem d4_41 : decode prog_42_method_2_code 41 = .ok (.if_icmp .ne 16, 3) := by decide +kernel
theorem d4_44 : decode prog_42_method_2_code 44 = .ok (.aload_n 0, 1) := by decide +kernel
theorem d4_45 : decode prog_42_method_2_code 45 = .ok (.dup, 1) := by decide +kernel
theorem d4_46 : decode prog_42_method_2_code 46 = .ok (.getfield 29, 3) := by decide +kernel
theorem d4_49 : decode prog_42_method_2_code 49 = .ok (.iconst 1, 1) := by decide +kernel
theorem d4_50 : decode prog_42_method_2_code 50 = .ok (.iadd, 1) := by decide +kernel
theorem d4_51 : decode prog_42_method_2_code 51 = .ok (.putfield 29, 3) := by decide +kernel
theorem d4_54 : decode prog_42_method_2_code 54 = .ok (.goto 13, 3) := by decide +kernel
theorem d4_57 : decode prog_42_method_2_code 57 = .ok (.aload_n 0, 1) := by decide +kernel
theorem d4_58 : decode prog_42_method_2_code 58 = .ok (.dup, 1) := by decide +kernel
theorem d4_59 : decode prog_42_method_2_code 59 = .ok (.getfield 32, 3) := by decide +kernel
theorem d4_62 : decode prog_42_method_2_code 62 = .ok (.iconst 1, 1) := by decide +kernel
theorem d4_63 : decode prog_42_method_2_code 63 = .ok (.iadd, 1) := by decide +kernel
theorem d4_64 : decode prog_42_method_2_code 64 = .ok (.putfield 32, 3) := by decide +kernel
theorem d4_67 : decode prog_42_method_2_code 67 = .ok (.aload_n 0, 1) := by decide +kernel
theorem d4_68 : decode prog_42_method_2_code 68 = .ok (.getfield 13, 3) := by decide +kernel
theorem d4_71 : decode prog_42_method_2_code 71 = .ok (.iload_n 2, 1) := by decide +kernel
theorem d4_72 : decode prog_42_method_2_code 72 = .ok (.i2l, 1) := by decide +kernel
theorem d4_73 : decode prog_42_method_2_code 73 = .ok (.ldiv, 1) := by decide +kernel
theorem d4_74 : decode prog_42_method_2_code 74 = .ok (.lstore 4, 2) := by decide +kernel
theorem d4_76 : decode prog_42_method_2_code 76 = .ok (.aload_n 0, 1) := by decide +kernel
theorem d4_77 : decode prog_42_method_2_code 77 = .ok (.dup, 1) := by decide +kernel
theorem d4_78 : decode prog_42_method_2_code 78 = .ok (.getfield 35, 3) := by decide +kernel
theorem d4_81 : decode prog_42_method_2_code 81 = .ok (.lload 4, 2) := by decide +kernel
theorem d4_83 : decode prog_42_method_2_code 83 = .ok (.ladd, 1) := by decide +kernel
theorem d4_84 : decode prog_42_method_2_code 84 = .ok (.putfield 35, 3) := by decide +kernel
theorem d4_87 : decode prog_42_method_2_code 87 = .ok (.aload_n 0, 1) := by decide +kernel
theorem d4_88 : decode prog_42_method_2_code 88 = .ok (.dup, 1) := by decide +kernel
theorem d4_89 : decode prog_42_method_2_code 89 = .ok (.getfield 38, 3) := by decide +kernel
theorem d4_92 : decode prog_42_method_2_code 92 = .ok (.lload 4, 2) := by decide +kernel
theorem d4_94 : decode prog_42_method_2_code 94 = .ok (.lload 4, 2) := by decide +kernel
theorem d4_96 : decode prog_42_method_2_code 96 = .ok (.lmul, 1) := by decide +kernel
theorem d4_97 : decode prog_42_method_2_code 97 = .ok (.ladd, 1) := by decide +kernel
theorem d4_98 : decode prog_42_method_2_code 98 = .ok (.putfield 38, 3) := by decide +kernel
theorem d4_101 : decode prog_42_method_2_code 101 = .ok (.return_, 1) := by decide +kernel
set_option maxRecDepth 65536 in
set_option maxHeartbeats 40000000 in
theorem rm4 (l : Launch) (Z : State) (a0 : Array Value) (n0 : Nat) (hw : ∀ d ∈ tables_1, d.before a0 Z = true) (ws : List Jvm.Cond) (a1 : Addr) (p1 : Int32) (p2 : Int32) (p3 : Int32) (a1_unitsPerPoint : Int64) (a1_games : Int32) (a1_first : Int32) (a1_wins : Int32) (a1_units : Int64) (a1_squaredUnits : Int64) (a1_losses : Int32) (a1_draws : Int32) (a1_moves : Int64) (a1_simulations : Int64) (a1_positions : Int64) (a1_decidingNanos : Int64) (Ob : List OObj) (Ax : List OArr) (hz : p2 ≠ (0 : Int32)) : Con l Z a0 n0 ws (⟨"treetune/match/Standing", "record", "(ZIZ)V"⟩ : MethodName) prog_42_method_2_code 6 none ({ frames := 0, cells := 0, slots := 0, locals := 0 } : Room) #[(.ref a1), (.int p1), (.int p2), (.int p3)] ((a1, "treetune/match/Standing", [("treetune/match/Standing", "unitsPerPoint", "J", (.long a1_unitsPerPoint)), ("treetune/match/Standing", "games", "I", (.int a1_games)), ("treetune/match/Standing", "first", "I", (.int a1_first)), ("treetune/match/Standing", "wins", "I", (.int a1_wins)), ("treetune/match/Standing", "units", "J", (.long a1_units)), ("treetune/match/Standing", "squaredUnits", "J", (.long a1_squaredUnits)), ("treetune/match/Standing", "losses", "I", (.int a1_losses)), ("treetune/match/Standing", "draws", "I", (.int a1_draws)), ("treetune/match/Standing", "moves", "J", (.long a1_moves)), ("treetune/match/Standing", "simulations", "J", (.long a1_simulations)), ("treetune/match/Standing", "positions", "J", (.long a1_positions)), ("treetune/match/Standing", "decidingNanos", "J", (.long a1_decidingNanos))]) :: Ob, Ax) (fun vq Dq => ∃ (j25 : Int32), ∃ (j33 : Int32), ∃ (j34 : Int64), ∃ (j35 : Int64), ∃ (j36 : Int32), ∃ (j37 : Int32), ((((p3 = (0 : Int32)) ∧ j25 = a1_first) ∨ ((¬ (p3 = (0 : Int32))) ∧ j25 = (a1_first + (1 : Int32)))) ∧ ((∃ (j29 : Int32), ∃ (j30 : Int32), (p1 ≠ (0 : Int32)) ∧ (((p2 ≠ (1 : Int32)) ∧ j29 = a1_wins ∧ j30 = (a1_draws + (1 : Int32))) ∨ ((¬ (p2 ≠ (1 : Int32))) ∧ j29 = (a1_wins + (1 : Int32)) ∧ j30 = a1_draws)) ∧ j33 = j29 ∧ j34 = (a1_units + (a1_unitsPerPoint / (p2.toInt64))) ∧ j35 = (a1_squaredUnits + ((a1_unitsPerPoint / (p2.toInt64)) * (a1_unitsPerPoint / (p2.toInt64)))) ∧ j36 = a1_losses ∧ j37 = j30) ∨ ((¬ (p1 ≠ (0 : Int32))) ∧ j33 = a1_wins ∧ j34 = a1_units ∧ j35 = a1_squaredUnits ∧ j36 = (a1_losses + (1 : Int32)) ∧ j37 = a1_draws))) ∧ vq = none ∧ Dq = ((a1, "treetune/match/Standing", [("treetune/match/Standing", "unitsPerPoint", "J", (.long a1_unitsPerPoint)), ("treetune/match/Standing", "games", "I", (.int (a1_games + (1 : Int32)))), ("treetune/match/Standing", "first", "I", (.int j25)), ("treetune/match/Standing", "wins", "I", (.int j33)), ("treetune/match/Standing", "units", "J", (.long j34)), ("treetune/match/Standing", "squaredUnits", "J", (.long j35)), ("treetune/match/Standing", "losses", "I", (.int j36)), ("treetune/match/Standing", "draws", "I", (.int j37)), ("treetune/match/Standing", "moves", "J", (.long a1_moves)), ("treetune/match/Standing", "simulations", "J", (.long a1_simulations)), ("treetune/match/Standing", "positions", "J", (.long a1_positions)), ("treetune/match/Standing", "decidingNanos", "J", (.long a1_decidingNanos))]) :: Ob, Ax)) := by
  refine Con.of_run (plainFor_of_name pn_1) (L0 := #[.val (.ref a1), .val (.int p1), .val (.int p2), .val (.int p3), .unset, .unset]) (fun m => by first | (simp [entryFrame, mkF, argsToLocals, Value.category]; done) | rfl) ?_
  intro p e s m below meth c K
  refine Run.aloadN K d4_0 (pc' := 1) rfl rfl rfl ?_
  refine Run.dup K d4_1 (pc' := 2) rfl rfl ?_
  refine Run.getF K d4_2 (pc' := 5) rfl (hw _ (List.mem_of_getElem? (i := 21) rfl)) (i := 0) (j := 1) rfl rfl ?_
  refine Run.iconst K d4_5 (pc' := 6) rfl (v := (1 : Int32)) rfl ?_
  refine Run.iadd K d4_6 (pc' := 7) rfl ?_
  refine Run.putF K d4_7 (pc' := 10) rfl (hw _ (List.mem_of_getElem? (i := 21) rfl)) (Or.inl (hw _ (List.mem_of_getElem? (i := 22) rfl))) (hw _ (List.mem_of_getElem? (i := 2) rfl)) (ty := .int) (by decide) rfl rfl (i := 0) (j := 1) rfl rfl (D' := ((a1, "treetune/match/Standing", [("treetune/match/Standing", "unitsPerPoint", "J", (.long a1_unitsPerPoint)), ("treetune/match/Standing", "games", "I", (.int (a1_games + (1 : Int32)))), ("treetune/match/Standing", "first", "I", (.int a1_first)), ("treetune/match/Standing", "wins", "I", (.int a1_wins)), ("treetune/match/Standing", "units", "J", (.long a1_units)), ("treetune/match/Standing", "squaredUnits", "J", (.long a1_squaredUnits)), ("treetune/match/Standing", "losses", "I", (.int a1_losses)), ("treetune/match/Standing", "draws", "I", (.int a1_draws)), ("treetune/match/Standing", "moves", "J", (.long a1_moves)), ("treetune/match/Standing", "simulations", "J", (.long a1_simulations)), ("treetune/match/Standing", "positions", "J", (.long a1_positions)), ("treetune/match/Standing", "decidingNanos", "J", (.long a1_decidingNanos))]) :: Ob, Ax)) rfl ?_
  refine Run.iloadN K d4_10 (pc' := 11) rfl rfl ?_
  refine Run.join1 (F := fun (j40 : Int32) => ((p3 = (0 : Int32)) ∧ j40 = a1_first) ∨ ((¬ (p3 = (0 : Int32))) ∧ j40 = (a1_first + (1 : Int32)))) (D' := fun (j40 : Int32) => ((a1, "treetune/match/Standing", [("treetune/match/Standing", "unitsPerPoint", "J", (.long a1_unitsPerPoint)), ("treetune/match/Standing", "games", "I", (.int (a1_games + (1 : Int32)))), ("treetune/match/Standing", "first", "I", (.int j40)), ("treetune/match/Standing", "wins", "I", (.int a1_wins)), ("treetune/match/Standing", "units", "J", (.long a1_units)), ("treetune/match/Standing", "squaredUnits", "J", (.long a1_squaredUnits)), ("treetune/match/Standing", "losses", "I", (.int a1_losses)), ("treetune/match/Standing", "draws", "I", (.int a1_draws)), ("treetune/match/Standing", "moves", "J", (.long a1_moves)), ("treetune/match/Standing", "simulations", "J", (.long a1_simulations)), ("treetune/match/Standing", "positions", "J", (.long a1_positions)), ("treetune/match/Standing", "decidingNanos", "J", (.long a1_decidingNanos))]) :: Ob, Ax)) (cells' := 0) (slots' := 0) (pc' := 24) (L' := fun (j40 : Int32) => #[.val (.ref a1), .val (.int p1), .val (.int p2), .val (.int p3), .unset, .unset]) (S' := fun (j40 : Int32) => []) ?_ (fun J11 => ?_)
  · intro j40 hjj40
    refine Run.iloadN K d4_24 (pc' := 25) rfl rfl ?_
    refine Run.ifc K d4_25 (pT := 39) (pF := 28) (by decide) (by decide) rfl (fun (h25_40 : p1 ≠ (0 : Int32)) => ?_) (fun (h25_40 : ¬ (p1 ≠ (0 : Int32))) => ?_)
    · skip
      refine Run.iloadN K d4_39 (pc' := 40) rfl rfl ?_
      refine Run.iconst K d4_40 (pc' := 41) rfl (v := (1 : Int32)) rfl ?_
      refine Run.join2 (F := fun (j44 : Int32) (j45 : Int32) => ((p2 ≠ (1 : Int32)) ∧ j44 = a1_wins ∧ j45 = (a1_draws + (1 : Int32))) ∨ ((¬ (p2 ≠ (1 : Int32))) ∧ j44 = (a1_wins + (1 : Int32)) ∧ j45 = a1_draws)) (D' := fun (j44 : Int32) (j45 : Int32) => ((a1, "treetune/match/Standing", [("treetune/match/Standing", "unitsPerPoint", "J", (.long a1_unitsPerPoint)), ("treetune/match/Standing", "games", "I", (.int (a1_games + (1 : Int32)))), ("treetune/match/Standing", "first", "I", (.int j40)), ("treetune/match/Standing", "wins", "I", (.int j44)), ("treetune/match/Standing", "units", "J", (.long a1_units)), ("treetune/match/Standing", "squaredUnits", "J", (.long a1_squaredUnits)), ("treetune/match/Standing", "losses", "I", (.int a1_losses)), ("treetune/match/Standing", "draws", "I", (.int j45)), ("treetune/match/Standing", "moves", "J", (.long a1_moves)), ("treetune/match/Standing", "simulations", "J", (.long a1_simulations)), ("treetune/match/Standing", "positions", "J", (.long a1_positions)), ("treetune/match/Standing", "decidingNanos", "J", (.long a1_decidingNanos))]) :: Ob, Ax)) (cells' := 0) (slots' := 0) (pc' := 67) (L' := fun (j44 : Int32) (j45 : Int32) => #[.val (.ref a1), .val (.int p1), .val (.int p2), .val (.int p3), .unset, .unset]) (S' := fun (j44 : Int32) (j45 : Int32) => []) ?_ (fun J41 => ?_)
      · intro j44 j45 hjj44
        refine Run.aloadN K d4_67 (pc' := 68) rfl rfl rfl ?_
        refine Run.getF K d4_68 (pc' := 71) rfl (hw _ (List.mem_of_getElem? (i := 14) rfl)) (i := 0) (j := 0) rfl rfl ?_
        refine Run.iloadN K d4_71 (pc' := 72) rfl rfl ?_
        refine Run.i2l K d4_72 (pc' := 73) rfl ?_
        refine Run.ldiv K d4_73 (pc' := 74) rfl (own_i2l_ne hz) ?_
        refine Run.lstore K d4_74 (pc' := 76) rfl (L' := #[.val (.ref a1), .val (.int p1), .val (.int p2), .val (.int p3), .val (.long (a1_unitsPerPoint / (p2.toInt64))), .second]) rfl ?_
        refine Run.aloadN K d4_76 (pc' := 77) rfl rfl rfl ?_
        refine Run.dup K d4_77 (pc' := 78) rfl rfl ?_
        refine Run.getF K d4_78 (pc' := 81) rfl (hw _ (List.mem_of_getElem? (i := 27) rfl)) (i := 0) (j := 4) rfl rfl ?_
        refine Run.lload K d4_81 (pc' := 83) rfl rfl ?_
        refine Run.ladd K d4_83 (pc' := 84) rfl ?_
        refine Run.putF K d4_84 (pc' := 87) rfl (hw _ (List.mem_of_getElem? (i := 27) rfl)) (Or.inl (hw _ (List.mem_of_getElem? (i := 28) rfl))) (hw _ (List.mem_of_getElem? (i := 2) rfl)) (ty := .long) (by decide) rfl rfl (i := 0) (j := 4) rfl rfl (D' := ((a1, "treetune/match/Standing", [("treetune/match/Standing", "unitsPerPoint", "J", (.long a1_unitsPerPoint)), ("treetune/match/Standing", "games", "I", (.int (a1_games + (1 : Int32)))), ("treetune/match/Standing", "first", "I", (.int j40)), ("treetune/match/Standing", "wins", "I", (.int j44)), ("treetune/match/Standing", "units", "J", (.long (a1_units + (a1_unitsPerPoint / (p2.toInt64))))), ("treetune/match/Standing", "squaredUnits", "J", (.long a1_squaredUnits)), ("treetune/match/Standing", "losses", "I", (.int a1_losses)), ("treetune/match/Standing", "draws", "I", (.int j45)), ("treetune/match/Standing", "moves", "J", (.long a1_moves)), ("treetune/match/Standing", "simulations", "J", (.long a1_simulations)), ("treetune/match/Standing", "positions", "J", (.long a1_positions)), ("treetune/match/Standing", "decidingNanos", "J", (.long a1_decidingNanos))]) :: Ob, Ax)) rfl ?_
        refine Run.aloadN K d4_87 (pc' := 88) rfl rfl rfl ?_
        refine Run.dup K d4_88 (pc' := 89) rfl rfl ?_
        refine Run.getF K d4_89 (pc' := 92) rfl (hw _ (List.mem_of_getElem? (i := 29) rfl)) (i := 0) (j := 5) rfl rfl ?_
        refine Run.lload K d4_92 (pc' := 94) rfl rfl ?_
        refine Run.lload K d4_94 (pc' := 96) rfl rfl ?_
        refine Run.lmul K d4_96 (pc' := 97) rfl ?_
        refine Run.ladd K d4_97 (pc' := 98) rfl ?_
        refine Run.putF K d4_98 (pc' := 101) rfl (hw _ (List.mem_of_getElem? (i := 29) rfl)) (Or.inl (hw _ (List.mem_of_getElem? (i := 30) rfl))) (hw _ (List.mem_of_getElem? (i := 2) rfl)) (ty := .long) (by decide) rfl rfl (i := 0) (j := 5) rfl rfl (D' := ((a1, "treetune/match/Standing", [("treetune/match/Standing", "unitsPerPoint", "J", (.long a1_unitsPerPoint)), ("treetune/match/Standing", "games", "I", (.int (a1_games + (1 : Int32)))), ("treetune/match/Standing", "first", "I", (.int j40)), ("treetune/match/Standing", "wins", "I", (.int j44)), ("treetune/match/Standing", "units", "J", (.long (a1_units + (a1_unitsPerPoint / (p2.toInt64))))), ("treetune/match/Standing", "squaredUnits", "J", (.long (a1_squaredUnits + ((a1_unitsPerPoint / (p2.toInt64)) * (a1_unitsPerPoint / (p2.toInt64)))))), ("treetune/match/Standing", "losses", "I", (.int a1_losses)), ("treetune/match/Standing", "draws", "I", (.int j45)), ("treetune/match/Standing", "moves", "J", (.long a1_moves)), ("treetune/match/Standing", "simulations", "J", (.long a1_simulations)), ("treetune/match/Standing", "positions", "J", (.long a1_positions)), ("treetune/match/Standing", "decidingNanos", "J", (.long a1_decidingNanos))]) :: Ob, Ax)) rfl ?_
        exact Run.retV K d4_101 rfl (by decide) (by decide) ⟨j40, _, _, _, _, _, ⟨hjj40, Or.inl ⟨j44, j45, h25_40, hjj44, rfl, rfl, rfl, rfl, rfl⟩⟩, rfl, rfl⟩
      · skip
        refine Run.icmp K d4_41 (pT := 57) (pF := 44) (by decide) (by decide) rfl (fun (h41_45 : p2 ≠ (1 : Int32)) => ?_) (fun (h41_45 : ¬ (p2 ≠ (1 : Int32))) => ?_)
        · skip
          refine Run.aloadN K d4_57 (pc' := 58) rfl rfl rfl ?_
          refine Run.dup K d4_58 (pc' := 59) rfl rfl ?_
          refine Run.getF K d4_59 (pc' := 62) rfl (hw _ (List.mem_of_getElem? (i := 38) rfl)) (i := 0) (j := 7) rfl rfl ?_
          refine Run.iconst K d4_62 (pc' := 63) rfl (v := (1 : Int32)) rfl ?_
          refine Run.iadd K d4_63 (pc' := 64) rfl ?_
          refine Run.putF K d4_64 (pc' := 67) rfl (hw _ (List.mem_of_getElem? (i := 38) rfl)) (Or.inl (hw _ (List.mem_of_getElem? (i := 39) rfl))) (hw _ (List.mem_of_getElem? (i := 2) rfl)) (ty := .int) (by decide) rfl rfl (i := 0) (j := 7) rfl rfl (D' := ((a1, "treetune/match/Standing", [("treetune/match/Standing", "unitsPerPoint", "J", (.long a1_unitsPerPoint)), ("treetune/match/Standing", "games", "I", (.int (a1_games + (1 : Int32)))), ("treetune/match/Standing", "first", "I", (.int j40)), ("treetune/match/Standing", "wins", "I", (.int a1_wins)), ("treetune/match/Standing", "units", "J", (.long a1_units)), ("treetune/match/Standing", "squaredUnits", "J", (.long a1_squaredUnits)), ("treetune/match/Standing", "losses", "I", (.int a1_losses)), ("treetune/match/Standing", "draws", "I", (.int (a1_draws + (1 : Int32)))), ("treetune/match/Standing", "moves", "J", (.long a1_moves)), ("treetune/match/Standing", "simulations", "J", (.long a1_simulations)), ("treetune/match/Standing", "positions", "J", (.long a1_positions)), ("treetune/match/Standing", "decidingNanos", "J", (.long a1_decidingNanos))]) :: Ob, Ax)) rfl ?_
          exact J41 _ _ (Or.inl ⟨h41_45, rfl, rfl⟩)
        · skip
          refine Run.aloadN K d4_44 (pc' := 45) rfl rfl rfl ?_
          refine Run.dup K d4_45 (pc' := 46) rfl rfl ?_
          refine Run.getF K d4_46 (pc' := 49) rfl (hw _ (List.mem_of_getElem? (i := 25) rfl)) (i := 0) (j := 3) rfl rfl ?_
          refine Run.iconst K d4_49 (pc' := 50) rfl (v := (1 : Int32)) rfl ?_
          refine Run.iadd K d4_50 (pc' := 51) rfl ?_
          refine Run.putF K d4_51 (pc' := 54) rfl (hw _ (List.mem_of_getElem? (i := 25) rfl)) (Or.inl (hw _ (List.mem_of_getElem? (i := 26) rfl))) (hw _ (List.mem_of_getElem? (i := 2) rfl)) (ty := .int) (by decide) rfl rfl (i := 0) (j := 3) rfl rfl (D' := ((a1, "treetune/match/Standing", [("treetune/match/Standing", "unitsPerPoint", "J", (.long a1_unitsPerPoint)), ("treetune/match/Standing", "games", "I", (.int (a1_games + (1 : Int32)))), ("treetune/match/Standing", "first", "I", (.int j40)), ("treetune/match/Standing", "wins", "I", (.int (a1_wins + (1 : Int32)))), ("treetune/match/Standing", "units", "J", (.long a1_units)), ("treetune/match/Standing", "squaredUnits", "J", (.long a1_squaredUnits)), ("treetune/match/Standing", "losses", "I", (.int a1_losses)), ("treetune/match/Standing", "draws", "I", (.int a1_draws)), ("treetune/match/Standing", "moves", "J", (.long a1_moves)), ("treetune/match/Standing", "simulations", "J", (.long a1_simulations)), ("treetune/match/Standing", "positions", "J", (.long a1_positions)), ("treetune/match/Standing", "decidingNanos", "J", (.long a1_decidingNanos))]) :: Ob, Ax)) rfl ?_
          refine Run.goto K d4_54 (pc' := 67) (by decide) (by decide) ?_
          exact J41 _ _ (Or.inr (⟨h41_45, rfl, rfl⟩))
    · skip
      refine Run.aloadN K d4_28 (pc' := 29) rfl rfl rfl ?_
      refine Run.dup K d4_29 (pc' := 30) rfl rfl ?_
      refine Run.getF K d4_30 (pc' := 33) rfl (hw _ (List.mem_of_getElem? (i := 31) rfl)) (i := 0) (j := 6) rfl rfl ?_
      refine Run.iconst K d4_33 (pc' := 34) rfl (v := (1 : Int32)) rfl ?_
      refine Run.iadd K d4_34 (pc' := 35) rfl ?_
      refine Run.putF K d4_35 (pc' := 38) rfl (hw _ (List.mem_of_getElem? (i := 31) rfl)) (Or.inl (hw _ (List.mem_of_getElem? (i := 32) rfl))) (hw _ (List.mem_of_getElem? (i := 2) rfl)) (ty := .int) (by decide) rfl rfl (i := 0) (j := 6) rfl rfl (D' := ((a1, "treetune/match/Standing", [("treetune/match/Standing", "unitsPerPoint", "J", (.long a1_unitsPerPoint)), ("treetune/match/Standing", "games", "I", (.int (a1_games + (1 : Int32)))), ("treetune/match/Standing", "first", "I", (.int j40)), ("treetune/match/Standing", "wins", "I", (.int a1_wins)), ("treetune/match/Standing", "units", "J", (.long a1_units)), ("treetune/match/Standing", "squaredUnits", "J", (.long a1_squaredUnits)), ("treetune/match/Standing", "losses", "I", (.int (a1_losses + (1 : Int32)))), ("treetune/match/Standing", "draws", "I", (.int a1_draws)), ("treetune/match/Standing", "moves", "J", (.long a1_moves)), ("treetune/match/Standing", "simulations", "J", (.long a1_simulations)), ("treetune/match/Standing", "positions", "J", (.long a1_positions)), ("treetune/match/Standing", "decidingNanos", "J", (.long a1_decidingNanos))]) :: Ob, Ax)) rfl ?_
      exact Run.retV K d4_38 rfl (by decide) (by decide) ⟨j40, _, _, _, _, _, ⟨hjj40, Or.inr (⟨h25_40, rfl, rfl, rfl, rfl, rfl⟩)⟩, rfl, rfl⟩
  · skip
    refine Run.ifc K d4_11 (pT := 24) (pF := 14) (by decide) (by decide) rfl (fun (h11_46 : p3 = (0 : Int32)) => ?_) (fun (h11_46 : ¬ (p3 = (0 : Int32))) => ?_)
    · skip
      exact J11 _ (Or.inl ⟨h11_46, rfl⟩)
    · skip
      refine Run.aloadN K d4_14 (pc' := 15) rfl rfl rfl ?_
      refine Run.dup K d4_15 (pc' := 16) rfl rfl ?_
      refine Run.getF K d4_16 (pc' := 19) rfl (hw _ (List.mem_of_getElem? (i := 23) rfl)) (i := 0) (j := 2) rfl rfl ?_
      refine Run.iconst K d4_19 (pc' := 20) rfl (v := (1 : Int32)) rfl ?_
      refine Run.iadd K d4_20 (pc' := 21) rfl ?_
      refine Run.putF K d4_21 (pc' := 24) rfl (hw _ (List.mem_of_getElem? (i := 23) rfl)) (Or.inl (hw _ (List.mem_of_getElem? (i := 24) rfl))) (hw _ (List.mem_of_getElem? (i := 2) rfl)) (ty := .int) (by decide) rfl rfl (i := 0) (j := 2) rfl rfl (D' := ((a1, "treetune/match/Standing", [("treetune/match/Standing", "unitsPerPoint", "J", (.long a1_unitsPerPoint)), ("treetune/match/Standing", "games", "I", (.int (a1_games + (1 : Int32)))), ("treetune/match/Standing", "first", "I", (.int (a1_first + (1 : Int32)))), ("treetune/match/Standing", "wins", "I", (.int a1_wins)), ("treetune/match/Standing", "units", "J", (.long a1_units)), ("treetune/match/Standing", "squaredUnits", "J", (.long a1_squaredUnits)), ("treetune/match/Standing", "losses", "I", (.int a1_losses)), ("treetune/match/Standing", "draws", "I", (.int a1_draws)), ("treetune/match/Standing", "moves", "J", (.long a1_moves)), ("treetune/match/Standing", "simulations", "J", (.long a1_simulations)), ("treetune/match/Standing", "positions", "J", (.long a1_positions)), ("treetune/match/Standing", "decidingNanos", "J", (.long a1_decidingNanos))]) :: Ob, Ax)) rfl ?_
      exact J11 _ (Or.inr (⟨h11_46, rfl⟩))
theorem d5_0 : decode prog_42_method_4_code 0 = .ok (.aload_n 0, 1) := by decide +kernel
theorem d5_1 : decode prog_42_method_4_code 1 = .ok (.dup, 1) := by decide +kernel
theorem d5_2 : decode prog_42_method_4_code 2 = .ok (.getfield 19, 3) := by decide +kernel
theorem d5_5 : decode prog_42_method_4_code 5 = .ok (.aload_n 1, 1) := by decide +kernel
theorem d5_6 : decode prog_42_method_4_code 6 = .ok (.getfield 19, 3) := by decide +kernel
theorem d5_9 : decode prog_42_method_4_code 9 = .ok (.iadd, 1) := by decide +kernel
theorem d5_10 : decode prog_42_method_4_code 10 = .ok (.putfield 19, 3) := by decide +kernel
theorem d5_13 : decode prog_42_method_4_code 13 = .ok (.aload_n 0, 1) := by decide +kernel
theorem d5_14 : decode prog_42_method_4_code 14 = .ok (.dup, 1) := by decide +kernel
theorem d5_15 : decode prog_42_method_4_code 15 = .ok (.getfield 29, 3) := by decide +kernel
theorem d5_18 : decode prog_42_method_4_code 18 = .ok (.aload_n 1, 1) := by decide +kernel
theorem d5_19 : decode prog_42_method_4_code 19 = .ok (.getfield 29, 3) := by decide +kernel
theorem d5_22 : decode prog_42_method_4_code 22 = .ok (.iadd, 1) := by decide +kernel
theorem d5_23 : decode prog_42_method_4_code 23 = .ok (.putfield 29, 3) := by decide +kernel
theorem d5_26 : decode prog_42_method_4_code 26 = .ok (.aload_n 0, 1) := by decide +kernel
theorem d5_27 : decode prog_42_method_4_code 27 = .ok (.dup, 1) := by decide +kernel
theorem d5_28 : decode prog_42_method_4_code 28 = .ok (.getfield 32, 3) := by decide +kernel
theorem d5_31 : decode prog_42_method_4_code 31 = .ok (.aload_n 1, 1) := by decide +kernel
theorem d5_32 : decode prog_42_method_4_code 32 = .ok (.getfield 32, 3) := by decide +kernel
theorem d5_35 : decode prog_42_method_4_code 35 = .ok (.iadd, 1) := by decide +kernel
theorem d5_36 : decode prog_42_method_4_code 36 = .ok (.putfield 32, 3) := by decide +kernel
theorem d5_39 : decode prog_42_method_4_code 39 = .ok (.aload_n 0, 1) := by decide +kernel
theorem d5_40 : decode prog_42_method_4_code 40 = .ok (.dup, 1) := by decide +kernel
theorem d5_41 : decode prog_42_method_4_code 41 = .ok (.getfield 26, 3) := by decide +kernel
theorem d5_44 : decode prog_42_method_4_code 44 = .ok (.aload_n 1, 1) := by decide +kernel
theorem d5_45 : decode prog_42_method_4_code 45 = .ok (.getfield 26, 3) := by decide +kernel
theorem d5_48 : decode prog_42_method_4_code 48 = .ok (.iadd, 1) := by decide +kernel
theorem d5_49 : decode prog_42_method_4_code 49 = .ok (.putfield 26, 3) := by decide +kernel
theorem d5_52 : decode prog_42_method_4_code 52 = .ok (.aload_n 0, 1) := by decide +kernel
theorem d5_53 : decode prog_42_method_4_code 53 = .ok (.dup, 1) := by decide +kernel
theorem d5_54 : decode prog_42_method_4_code 54 = .ok (.getfield 23, 3) := by decide +kernel
theorem d5_57 : decode prog_42_method_4_code 57 = .ok (.aload_n 1, 1) := by decide +kernel
theorem d5_58 : decode prog_42_method_4_code 58 = .ok (.getfield 23, 3) := by decide +kernel
theorem d5_61 : decode prog_42_method_4_code 61 = .ok (.iadd, 1) := by decide +kernel
theorem d5_62 : decode prog_42_method_4_code 62 = .ok (.putfield 23, 3) := by decide +kernel
theorem d5_65 : decode prog_42_method_4_code 65 = .ok (.aload_n 0, 1) := by decide +kernel
theorem d5_66 : decode prog_42_method_4_code 66 = .ok (.dup, 1) := by decide +kernel
theorem d5_67 : decode prog_42_method_4_code 67 = .ok (.getfield 35, 3) := by decide +kernel
theorem d5_70 : decode prog_42_method_4_code 70 = .ok (.aload_n 1, 1) := by decide +kernel
theorem d5_71 : decode prog_42_method_4_code 71 = .ok (.getfield 35, 3) := by decide +kernel
theorem d5_74 : decode prog_42_method_4_code 74 = .ok (.ladd, 1) := by decide +kernel
theorem d5_75 : decode prog_42_method_4_code 75 = .ok (.putfield 35, 3) := by decide +kernel
theorem d5_78 : decode prog_42_method_4_code 78 = .ok (.aload_n 0, 1) := by decide +kernel
theorem d5_79 : decode prog_42_method_4_code 79 = .ok (.dup, 1) := by decide +kernel
theorem d5_80 : decode prog_42_method_4_code 80 = .ok (.getfield 38, 3) := by decide +kernel
theorem d5_83 : decode prog_42_method_4_code 83 = .ok (.aload_n 1, 1) := by decide +kernel
theorem d5_84 : decode prog_42_method_4_code 84 = .ok (.getfield 38, 3) := by decide +kernel
theorem d5_87 : decode prog_42_method_4_code 87 = .ok (.ladd, 1) := by decide +kernel
theorem d5_88 : decode prog_42_method_4_code 88 = .ok (.putfield 38, 3) := by decide +kernel
theorem d5_91 : decode prog_42_method_4_code 91 = .ok (.aload_n 0, 1) := by decide +kernel
theorem d5_92 : decode prog_42_method_4_code 92 = .ok (.dup, 1) := by decide +kernel
theorem d5_93 : decode prog_42_method_4_code 93 = .ok (.getfield 41, 3) := by decide +kernel
theorem d5_96 : decode prog_42_method_4_code 96 = .ok (.aload_n 1, 1) := by decide +kernel
theorem d5_97 : decode prog_42_method_4_code 97 = .ok (.getfield 41, 3) := by decide +kernel
theorem d5_100 : decode prog_42_method_4_code 100 = .ok (.ladd, 1) := by decide +kernel
theorem d5_101 : decode prog_42_method_4_code 101 = .ok (.putfield 41, 3) := by decide +kernel
theorem d5_104 : decode prog_42_method_4_code 104 = .ok (.aload_n 0, 1) := by decide +kernel
theorem d5_105 : decode prog_42_method_4_code 105 = .ok (.dup, 1) := by decide +kernel
theorem d5_106 : decode prog_42_method_4_code 106 = .ok (.getfield 44, 3) := by decide +kernel
theorem d5_109 : decode prog_42_method_4_code 109 = .ok (.aload_n 1, 1) := by decide +kernel
theorem d5_110 : decode prog_42_method_4_code 110 = .ok (.getfield 44, 3) := by decide +kernel
theorem d5_113 : decode prog_42_method_4_code 113 = .ok (.ladd, 1) := by decide +kernel
theorem d5_114 : decode prog_42_method_4_code 114 = .ok (.putfield 44, 3) := by decide +kernel
theorem d5_117 : decode prog_42_method_4_code 117 = .ok (.aload_n 0, 1) := by decide +kernel
theorem d5_118 : decode prog_42_method_4_code 118 = .ok (.dup, 1) := by decide +kernel
theorem d5_119 : decode prog_42_method_4_code 119 = .ok (.getfield 47, 3) := by decide +kernel
theorem d5_122 : decode prog_42_method_4_code 122 = .ok (.aload_n 1, 1) := by decide +kernel
theorem d5_123 : decode prog_42_method_4_code 123 = .ok (.getfield 47, 3) := by decide +kernel
theorem d5_126 : decode prog_42_method_4_code 126 = .ok (.ladd, 1) := by decide +kernel
theorem d5_127 : decode prog_42_method_4_code 127 = .ok (.putfield 47, 3) := by decide +kernel
theorem d5_130 : decode prog_42_method_4_code 130 = .ok (.aload_n 0, 1) := by decide +kernel
theorem d5_131 : decode prog_42_method_4_code 131 = .ok (.dup, 1) := by decide +kernel
theorem d5_132 : decode prog_42_method_4_code 132 = .ok (.getfield 50, 3) := by decide +kernel
theorem d5_135 : decode prog_42_method_4_code 135 = .ok (.aload_n 1, 1) := by decide +kernel
theorem d5_136 : decode prog_42_method_4_code 136 = .ok (.getfield 50, 3) := by decide +kernel
theorem d5_139 : decode prog_42_method_4_code 139 = .ok (.ladd, 1) := by decide +kernel
theorem d5_140 : decode prog_42_method_4_code 140 = .ok (.putfield 50, 3) := by decide +kernel
theorem d5_143 : decode prog_42_method_4_code 143 = .ok (.return_, 1) := by decide +kernel
set_option maxRecDepth 65536 in
set_option maxHeartbeats 40000000 in
theorem rm5 (l : Launch) (Z : State) (a0 : Array Value) (n0 : Nat) (hw : ∀ d ∈ tables_1, d.before a0 Z = true) (ws : List Jvm.Cond) (a1 : Addr) (a2 : Addr) (a1_unitsPerPoint : Int64) (a1_games : Int32) (a1_first : Int32) (a1_wins : Int32) (a1_units : Int64) (a1_squaredUnits : Int64) (a1_losses : Int32) (a1_draws : Int32) (a1_moves : Int64) (a1_simulations : Int64) (a1_positions : Int64) (a1_decidingNanos : Int64) (a2_unitsPerPoint : Int64) (a2_games : Int32) (a2_first : Int32) (a2_wins : Int32) (a2_units : Int64) (a2_squaredUnits : Int64) (a2_losses : Int32) (a2_draws : Int32) (a2_moves : Int64) (a2_simulations : Int64) (a2_positions : Int64) (a2_decidingNanos : Int64) (Ob : List OObj) (Ax : List OArr) : Con l Z a0 n0 ws (⟨"treetune/match/Standing", "add", "(Ltreetune/match/Standing;)V"⟩ : MethodName) prog_42_method_4_code 2 none ({ frames := 0, cells := 0, slots := 0, locals := 0 } : Room) #[(.ref a1), (.ref a2)] ((a1, "treetune/match/Standing", [("treetune/match/Standing", "unitsPerPoint", "J", (.long a1_unitsPerPoint)), ("treetune/match/Standing", "games", "I", (.int a1_games)), ("treetune/match/Standing", "first", "I", (.int a1_first)), ("treetune/match/Standing", "wins", "I", (.int a1_wins)), ("treetune/match/Standing", "units", "J", (.long a1_units)), ("treetune/match/Standing", "squaredUnits", "J", (.long a1_squaredUnits)), ("treetune/match/Standing", "losses", "I", (.int a1_losses)), ("treetune/match/Standing", "draws", "I", (.int a1_draws)), ("treetune/match/Standing", "moves", "J", (.long a1_moves)), ("treetune/match/Standing", "simulations", "J", (.long a1_simulations)), ("treetune/match/Standing", "positions", "J", (.long a1_positions)), ("treetune/match/Standing", "decidingNanos", "J", (.long a1_decidingNanos))]) :: (a2, "treetune/match/Standing", [("treetune/match/Standing", "unitsPerPoint", "J", (.long a2_unitsPerPoint)), ("treetune/match/Standing", "games", "I", (.int a2_games)), ("treetune/match/Standing", "first", "I", (.int a2_first)), ("treetune/match/Standing", "wins", "I", (.int a2_wins)), ("treetune/match/Standing", "units", "J", (.long a2_units)), ("treetune/match/Standing", "squaredUnits", "J", (.long a2_squaredUnits)), ("treetune/match/Standing", "losses", "I", (.int a2_losses)), ("treetune/match/Standing", "draws", "I", (.int a2_draws)), ("treetune/match/Standing", "moves", "J", (.long a2_moves)), ("treetune/match/Standing", "simulations", "J", (.long a2_simulations)), ("treetune/match/Standing", "positions", "J", (.long a2_positions)), ("treetune/match/Standing", "decidingNanos", "J", (.long a2_decidingNanos))]) :: Ob, Ax) (Ret none ((a1, "treetune/match/Standing", [("treetune/match/Standing", "unitsPerPoint", "J", (.long a1_unitsPerPoint)), ("treetune/match/Standing", "games", "I", (.int (a1_games + a2_games))), ("treetune/match/Standing", "first", "I", (.int (a1_first + a2_first))), ("treetune/match/Standing", "wins", "I", (.int (a1_wins + a2_wins))), ("treetune/match/Standing", "units", "J", (.long (a1_units + a2_units))), ("treetune/match/Standing", "squaredUnits", "J", (.long (a1_squaredUnits + a2_squaredUnits))), ("treetune/match/Standing", "losses", "I", (.int (a1_losses + a2_losses))), ("treetune/match/Standing", "draws", "I", (.int (a1_draws + a2_draws))), ("treetune/match/Standing", "moves", "J", (.long (a1_moves + a2_moves))), ("treetune/match/Standing", "simulations", "J", (.long (a1_simulations + a2_simulations))), ("treetune/match/Standing", "positions", "J", (.long (a1_positions + a2_positions))), ("treetune/match/Standing", "decidingNanos", "J", (.long (a1_decidingNanos + a2_decidingNanos)))]) :: (a2, "treetune/match/Standing", [("treetune/match/Standing", "unitsPerPoint", "J", (.long a2_unitsPerPoint)), ("treetune/match/Standing", "games", "I", (.int a2_games)), ("treetune/match/Standing", "first", "I", (.int a2_first)), ("treetune/match/Standing", "wins", "I", (.int a2_wins)), ("treetune/match/Standing", "units", "J", (.long a2_units)), ("treetune/match/Standing", "squaredUnits", "J", (.long a2_squaredUnits)), ("treetune/match/Standing", "losses", "I", (.int a2_losses)), ("treetune/match/Standing", "draws", "I", (.int a2_draws)), ("treetune/match/Standing", "moves", "J", (.long a2_moves)), ("treetune/match/Standing", "simulations", "J", (.long a2_simulations)), ("treetune/match/Standing", "positions", "J", (.long a2_positions)), ("treetune/match/Standing", "decidingNanos", "J", (.long a2_decidingNanos))]) :: Ob, Ax)) := by
  refine Con.of_run (plainFor_of_name pn_1) (L0 := #[.val (.ref a1), .val (.ref a2)]) (fun m => by first | (simp [entryFrame, mkF, argsToLocals, Value.category]; done) | rfl) ?_
  intro p e s m below meth c K
  refine Run.aloadN K d5_0 (pc' := 1) rfl rfl rfl ?_
  refine Run.dup K d5_1 (pc' := 2) rfl rfl ?_
  refine Run.getF K d5_2 (pc' := 5) rfl (hw _ (List.mem_of_getElem? (i := 21) rfl)) (i := 0) (j := 1) rfl rfl ?_
  refine Run.aloadN K d5_5 (pc' := 6) rfl rfl rfl ?_
  refine Run.getF K d5_6 (pc' := 9) rfl (hw _ (List.mem_of_getElem? (i := 21) rfl)) (i := 1) (j := 1) rfl rfl ?_
  refine Run.iadd K d5_9 (pc' := 10) rfl ?_
  refine Run.putF K d5_10 (pc' := 13) rfl (hw _ (List.mem_of_getElem? (i := 21) rfl)) (Or.inl (hw _ (List.mem_of_getElem? (i := 22) rfl))) (hw _ (List.mem_of_getElem? (i := 2) rfl)) (ty := .int) (by decide) rfl rfl (i := 0) (j := 1) rfl rfl (D' := ((a1, "treetune/match/Standing", [("treetune/match/Standing", "unitsPerPoint", "J", (.long a1_unitsPerPoint)), ("treetune/match/Standing", "games", "I", (.int (a1_games + a2_games))), ("treetune/match/Standing", "first", "I", (.int a1_first)), ("treetune/match/Standing", "wins", "I", (.int a1_wins)), ("treetune/match/Standing", "units", "J", (.long a1_units)), ("treetune/match/Standing", "squaredUnits", "J", (.long a1_squaredUnits)), ("treetune/match/Standing", "losses", "I", (.int a1_losses)), ("treetune/match/Standing", "draws", "I", (.int a1_draws)), ("treetune/match/Standing", "moves", "J", (.long a1_moves)), ("treetune/match/Standing", "simulations", "J", (.long a1_simulations)), ("treetune/match/Standing", "positions", "J", (.long a1_positions)), ("treetune/match/Standing", "decidingNanos", "J", (.long a1_decidingNanos))]) :: (a2, "treetune/match/Standing", [("treetune/match/Standing", "unitsPerPoint", "J", (.long a2_unitsPerPoint)), ("treetune/match/Standing", "games", "I", (.int a2_games)), ("treetune/match/Standing", "first", "I", (.int a2_first)), ("treetune/match/Standing", "wins", "I", (.int a2_wins)), ("treetune/match/Standing", "units", "J", (.long a2_units)), ("treetune/match/Standing", "squaredUnits", "J", (.long a2_squaredUnits)), ("treetune/match/Standing", "losses", "I", (.int a2_losses)), ("treetune/match/Standing", "draws", "I", (.int a2_draws)), ("treetune/match/Standing", "moves", "J", (.long a2_moves)), ("treetune/match/Standing", "simulations", "J", (.long a2_simulations)), ("treetune/match/Standing", "positions", "J", (.long a2_positions)), ("treetune/match/Standing", "decidingNanos", "J", (.long a2_decidingNanos))]) :: Ob, Ax)) rfl ?_
  refine Run.aloadN K d5_13 (pc' := 14) rfl rfl rfl ?_
  refine Run.dup K d5_14 (pc' := 15) rfl rfl ?_
  refine Run.getF K d5_15 (pc' := 18) rfl (hw _ (List.mem_of_getElem? (i := 25) rfl)) (i := 0) (j := 3) rfl rfl ?_
  refine Run.aloadN K d5_18 (pc' := 19) rfl rfl rfl ?_
  refine Run.getF K d5_19 (pc' := 22) rfl (hw _ (List.mem_of_getElem? (i := 25) rfl)) (i := 1) (j := 3) rfl rfl ?_
  refine Run.iadd K d5_22 (pc' := 23) rfl ?_
  refine Run.putF K d5_23 (pc' := 26) rfl (hw _ (List.mem_of_getElem? (i := 25) rfl)) (Or.inl (hw _ (List.mem_of_getElem? (i := 26) rfl))) (hw _ (List.mem_of_getElem? (i := 2) rfl)) (ty := .int) (by decide) rfl rfl (i := 0) (j := 3) rfl rfl (D' := ((a1, "treetune/match/Standing", [("treetune/match/Standing", "unitsPerPoint", "J", (.long a1_unitsPerPoint)), ("treetune/match/Standing", "games", "I", (.int (a1_games + a2_games))), ("treetune/match/Standing", "first", "I", (.int a1_first)), ("treetune/match/Standing", "wins", "I", (.int (a1_wins + a2_wins))), ("treetune/match/Standing", "units", "J", (.long a1_units)), ("treetune/match/Standing", "squaredUnits", "J", (.long a1_squaredUnits)), ("treetune/match/Standing", "losses", "I", (.int a1_losses)), ("treetune/match/Standing", "draws", "I", (.int a1_draws)), ("treetune/match/Standing", "moves", "J", (.long a1_moves)), ("treetune/match/Standing", "simulations", "J", (.long a1_simulations)), ("treetune/match/Standing", "positions", "J", (.long a1_positions)), ("treetune/match/Standing", "decidingNanos", "J", (.long a1_decidingNanos))]) :: (a2, "treetune/match/Standing", [("treetune/match/Standing", "unitsPerPoint", "J", (.long a2_unitsPerPoint)), ("treetune/match/Standing", "games", "I", (.int a2_games)), ("treetune/match/Standing", "first", "I", (.int a2_first)), ("treetune/match/Standing", "wins", "I", (.int a2_wins)), ("treetune/match/Standing", "units", "J", (.long a2_units)), ("treetune/match/Standing", "squaredUnits", "J", (.long a2_squaredUnits)), ("treetune/match/Standing", "losses", "I", (.int a2_losses)), ("treetune/match/Standing", "draws", "I", (.int a2_draws)), ("treetune/match/Standing", "moves", "J", (.long a2_moves)), ("treetune/match/Standing", "simulations", "J", (.long a2_simulations)), ("treetune/match/Standing", "positions", "J", (.long a2_positions)), ("treetune/match/Standing", "decidingNanos", "J", (.long a2_decidingNanos))]) :: Ob, Ax)) rfl ?_
  refine Run.aloadN K d5_26 (pc' := 27) rfl rfl rfl ?_
  refine Run.dup K d5_27 (pc' := 28) rfl rfl ?_
  refine Run.getF K d5_28 (pc' := 31) rfl (hw _ (List.mem_of_getElem? (i := 38) rfl)) (i := 0) (j := 7) rfl rfl ?_
  refine Run.aloadN K d5_31 (pc' := 32) rfl rfl rfl ?_
  refine Run.getF K d5_32 (pc' := 35) rfl (hw _ (List.mem_of_getElem? (i := 38) rfl)) (i := 1) (j := 7) rfl rfl ?_
  refine Run.iadd K d5_35 (pc' := 36) rfl ?_
  refine Run.putF K d5_36 (pc' := 39) rfl (hw _ (List.mem_of_getElem? (i := 38) rfl)) (Or.inl (hw _ (List.mem_of_getElem? (i := 39) rfl))) (hw _ (List.mem_of_getElem? (i := 2) rfl)) (ty := .int) (by decide) rfl rfl (i := 0) (j := 7) rfl rfl (D' := ((a1, "treetune/match/Standing", [("treetune/match/Standing", "unitsPerPoint", "J", (.long a1_unitsPerPoint)), ("treetune/match/Standing", "games", "I", (.int (a1_games + a2_games))), ("treetune/match/Standing", "first", "I", (.int a1_first)), ("treetune/match/Standing", "wins", "I", (.int (a1_wins + a2_wins))), ("treetune/match/Standing", "units", "J", (.long a1_units)), ("treetune/match/Standing", "squaredUnits", "J", (.long a1_squaredUnits)), ("treetune/match/Standing", "losses", "I", (.int a1_losses)), ("treetune/match/Standing", "draws", "I", (.int (a1_draws + a2_draws))), ("treetune/match/Standing", "moves", "J", (.long a1_moves)), ("treetune/match/Standing", "simulations", "J", (.long a1_simulations)), ("treetune/match/Standing", "positions", "J", (.long a1_positions)), ("treetune/match/Standing", "decidingNanos", "J", (.long a1_decidingNanos))]) :: (a2, "treetune/match/Standing", [("treetune/match/Standing", "unitsPerPoint", "J", (.long a2_unitsPerPoint)), ("treetune/match/Standing", "games", "I", (.int a2_games)), ("treetune/match/Standing", "first", "I", (.int a2_first)), ("treetune/match/Standing", "wins", "I", (.int a2_wins)), ("treetune/match/Standing", "units", "J", (.long a2_units)), ("treetune/match/Standing", "squaredUnits", "J", (.long a2_squaredUnits)), ("treetune/match/Standing", "losses", "I", (.int a2_losses)), ("treetune/match/Standing", "draws", "I", (.int a2_draws)), ("treetune/match/Standing", "moves", "J", (.long a2_moves)), ("treetune/match/Standing", "simulations", "J", (.long a2_simulations)), ("treetune/match/Standing", "positions", "J", (.long a2_positions)), ("treetune/match/Standing", "decidingNanos", "J", (.long a2_decidingNanos))]) :: Ob, Ax)) rfl ?_
  refine Run.aloadN K d5_39 (pc' := 40) rfl rfl rfl ?_
  refine Run.dup K d5_40 (pc' := 41) rfl rfl ?_
  refine Run.getF K d5_41 (pc' := 44) rfl (hw _ (List.mem_of_getElem? (i := 31) rfl)) (i := 0) (j := 6) rfl rfl ?_
  refine Run.aloadN K d5_44 (pc' := 45) rfl rfl rfl ?_
  refine Run.getF K d5_45 (pc' := 48) rfl (hw _ (List.mem_of_getElem? (i := 31) rfl)) (i := 1) (j := 6) rfl rfl ?_
  refine Run.iadd K d5_48 (pc' := 49) rfl ?_
  refine Run.putF K d5_49 (pc' := 52) rfl (hw _ (List.mem_of_getElem? (i := 31) rfl)) (Or.inl (hw _ (List.mem_of_getElem? (i := 32) rfl))) (hw _ (List.mem_of_getElem? (i := 2) rfl)) (ty := .int) (by decide) rfl rfl (i := 0) (j := 6) rfl rfl (D' := ((a1, "treetune/match/Standing", [("treetune/match/Standing", "unitsPerPoint", "J", (.long a1_unitsPerPoint)), ("treetune/match/Standing", "games", "I", (.int (a1_games + a2_games))), ("treetune/match/Standing", "first", "I", (.int a1_first)), ("treetune/match/Standing", "wins", "I", (.int (a1_wins + a2_wins))), ("treetune/match/Standing", "units", "J", (.long a1_units)), ("treetune/match/Standing", "squaredUnits", "J", (.long a1_squaredUnits)), ("treetune/match/Standing", "losses", "I", (.int (a1_losses + a2_losses))), ("treetune/match/Standing", "draws", "I", (.int (a1_draws + a2_draws))), ("treetune/match/Standing", "moves", "J", (.long a1_moves)), ("treetune/match/Standing", "simulations", "J", (.long a1_simulations)), ("treetune/match/Standing", "positions", "J", (.long a1_positions)), ("treetune/match/Standing", "decidingNanos", "J", (.long a1_decidingNanos))]) :: (a2, "treetune/match/Standing", [("treetune/match/Standing", "unitsPerPoint", "J", (.long a2_unitsPerPoint)), ("treetune/match/Standing", "games", "I", (.int a2_games)), ("treetune/match/Standing", "first", "I", (.int a2_first)), ("treetune/match/Standing", "wins", "I", (.int a2_wins)), ("treetune/match/Standing", "units", "J", (.long a2_units)), ("treetune/match/Standing", "squaredUnits", "J", (.long a2_squaredUnits)), ("treetune/match/Standing", "losses", "I", (.int a2_losses)), ("treetune/match/Standing", "draws", "I", (.int a2_draws)), ("treetune/match/Standing", "moves", "J", (.long a2_moves)), ("treetune/match/Standing", "simulations", "J", (.long a2_simulations)), ("treetune/match/Standing", "positions", "J", (.long a2_positions)), ("treetune/match/Standing", "decidingNanos", "J", (.long a2_decidingNanos))]) :: Ob, Ax)) rfl ?_
  refine Run.aloadN K d5_52 (pc' := 53) rfl rfl rfl ?_
  refine Run.dup K d5_53 (pc' := 54) rfl rfl ?_
  refine Run.getF K d5_54 (pc' := 57) rfl (hw _ (List.mem_of_getElem? (i := 23) rfl)) (i := 0) (j := 2) rfl rfl ?_
  refine Run.aloadN K d5_57 (pc' := 58) rfl rfl rfl ?_
  refine Run.getF K d5_58 (pc' := 61) rfl (hw _ (List.mem_of_getElem? (i := 23) rfl)) (i := 1) (j := 2) rfl rfl ?_
  refine Run.iadd K d5_61 (pc' := 62) rfl ?_
  refine Run.putF K d5_62 (pc' := 65) rfl (hw _ (List.mem_of_getElem? (i := 23) rfl)) (Or.inl (hw _ (List.mem_of_getElem? (i := 24) rfl))) (hw _ (List.mem_of_getElem? (i := 2) rfl)) (ty := .int) (by decide) rfl rfl (i := 0) (j := 2) rfl rfl (D' := ((a1, "treetune/match/Standing", [("treetune/match/Standing", "unitsPerPoint", "J", (.long a1_unitsPerPoint)), ("treetune/match/Standing", "games", "I", (.int (a1_games + a2_games))), ("treetune/match/Standing", "first", "I", (.int (a1_first + a2_first))), ("treetune/match/Standing", "wins", "I", (.int (a1_wins + a2_wins))), ("treetune/match/Standing", "units", "J", (.long a1_units)), ("treetune/match/Standing", "squaredUnits", "J", (.long a1_squaredUnits)), ("treetune/match/Standing", "losses", "I", (.int (a1_losses + a2_losses))), ("treetune/match/Standing", "draws", "I", (.int (a1_draws + a2_draws))), ("treetune/match/Standing", "moves", "J", (.long a1_moves)), ("treetune/match/Standing", "simulations", "J", (.long a1_simulations)), ("treetune/match/Standing", "positions", "J", (.long a1_positions)), ("treetune/match/Standing", "decidingNanos", "J", (.long a1_decidingNanos))]) :: (a2, "treetune/match/Standing", [("treetune/match/Standing", "unitsPerPoint", "J", (.long a2_unitsPerPoint)), ("treetune/match/Standing", "games", "I", (.int a2_games)), ("treetune/match/Standing", "first", "I", (.int a2_first)), ("treetune/match/Standing", "wins", "I", (.int a2_wins)), ("treetune/match/Standing", "units", "J", (.long a2_units)), ("treetune/match/Standing", "squaredUnits", "J", (.long a2_squaredUnits)), ("treetune/match/Standing", "losses", "I", (.int a2_losses)), ("treetune/match/Standing", "draws", "I", (.int a2_draws)), ("treetune/match/Standing", "moves", "J", (.long a2_moves)), ("treetune/match/Standing", "simulations", "J", (.long a2_simulations)), ("treetune/match/Standing", "positions", "J", (.long a2_positions)), ("treetune/match/Standing", "decidingNanos", "J", (.long a2_decidingNanos))]) :: Ob, Ax)) rfl ?_
  refine Run.aloadN K d5_65 (pc' := 66) rfl rfl rfl ?_
  refine Run.dup K d5_66 (pc' := 67) rfl rfl ?_
  refine Run.getF K d5_67 (pc' := 70) rfl (hw _ (List.mem_of_getElem? (i := 27) rfl)) (i := 0) (j := 4) rfl rfl ?_
  refine Run.aloadN K d5_70 (pc' := 71) rfl rfl rfl ?_
  refine Run.getF K d5_71 (pc' := 74) rfl (hw _ (List.mem_of_getElem? (i := 27) rfl)) (i := 1) (j := 4) rfl rfl ?_
  refine Run.ladd K d5_74 (pc' := 75) rfl ?_
  refine Run.putF K d5_75 (pc' := 78) rfl (hw _ (List.mem_of_getElem? (i := 27) rfl)) (Or.inl (hw _ (List.mem_of_getElem? (i := 28) rfl))) (hw _ (List.mem_of_getElem? (i := 2) rfl)) (ty := .long) (by decide) rfl rfl (i := 0) (j := 4) rfl rfl (D' := ((a1, "treetune/match/Standing", [("treetune/match/Standing", "unitsPerPoint", "J", (.long a1_unitsPerPoint)), ("treetune/match/Standing", "games", "I", (.int (a1_games + a2_games))), ("treetune/match/Standing", "first", "I", (.int (a1_first + a2_first))), ("treetune/match/Standing", "wins", "I", (.int (a1_wins + a2_wins))), ("treetune/match/Standing", "units", "J", (.long (a1_units + a2_units))), ("treetune/match/Standing", "squaredUnits", "J", (.long a1_squaredUnits)), ("treetune/match/Standing", "losses", "I", (.int (a1_losses + a2_losses))), ("treetune/match/Standing", "draws", "I", (.int (a1_draws + a2_draws))), ("treetune/match/Standing", "moves", "J", (.long a1_moves)), ("treetune/match/Standing", "simulations", "J", (.long a1_simulations)), ("treetune/match/Standing", "positions", "J", (.long a1_positions)), ("treetune/match/Standing", "decidingNanos", "J", (.long a1_decidingNanos))]) :: (a2, "treetune/match/Standing", [("treetune/match/Standing", "unitsPerPoint", "J", (.long a2_unitsPerPoint)), ("treetune/match/Standing", "games", "I", (.int a2_games)), ("treetune/match/Standing", "first", "I", (.int a2_first)), ("treetune/match/Standing", "wins", "I", (.int a2_wins)), ("treetune/match/Standing", "units", "J", (.long a2_units)), ("treetune/match/Standing", "squaredUnits", "J", (.long a2_squaredUnits)), ("treetune/match/Standing", "losses", "I", (.int a2_losses)), ("treetune/match/Standing", "draws", "I", (.int a2_draws)), ("treetune/match/Standing", "moves", "J", (.long a2_moves)), ("treetune/match/Standing", "simulations", "J", (.long a2_simulations)), ("treetune/match/Standing", "positions", "J", (.long a2_positions)), ("treetune/match/Standing", "decidingNanos", "J", (.long a2_decidingNanos))]) :: Ob, Ax)) rfl ?_
  refine Run.aloadN K d5_78 (pc' := 79) rfl rfl rfl ?_
  refine Run.dup K d5_79 (pc' := 80) rfl rfl ?_
  refine Run.getF K d5_80 (pc' := 83) rfl (hw _ (List.mem_of_getElem? (i := 29) rfl)) (i := 0) (j := 5) rfl rfl ?_
  refine Run.aloadN K d5_83 (pc' := 84) rfl rfl rfl ?_
  refine Run.getF K d5_84 (pc' := 87) rfl (hw _ (List.mem_of_getElem? (i := 29) rfl)) (i := 1) (j := 5) rfl rfl ?_
  refine Run.ladd K d5_87 (pc' := 88) rfl ?_
  refine Run.putF K d5_88 (pc' := 91) rfl (hw _ (List.mem_of_getElem? (i := 29) rfl)) (Or.inl (hw _ (List.mem_of_getElem? (i := 30) rfl))) (hw _ (List.mem_of_getElem? (i := 2) rfl)) (ty := .long) (by decide) rfl rfl (i := 0) (j := 5) rfl rfl (D' := ((a1, "treetune/match/Standing", [("treetune/match/Standing", "unitsPerPoint", "J", (.long a1_unitsPerPoint)), ("treetune/match/Standing", "games", "I", (.int (a1_games + a2_games))), ("treetune/match/Standing", "first", "I", (.int (a1_first + a2_first))), ("treetune/match/Standing", "wins", "I", (.int (a1_wins + a2_wins))), ("treetune/match/Standing", "units", "J", (.long (a1_units + a2_units))), ("treetune/match/Standing", "squaredUnits", "J", (.long (a1_squaredUnits + a2_squaredUnits))), ("treetune/match/Standing", "losses", "I", (.int (a1_losses + a2_losses))), ("treetune/match/Standing", "draws", "I", (.int (a1_draws + a2_draws))), ("treetune/match/Standing", "moves", "J", (.long a1_moves)), ("treetune/match/Standing", "simulations", "J", (.long a1_simulations)), ("treetune/match/Standing", "positions", "J", (.long a1_positions)), ("treetune/match/Standing", "decidingNanos", "J", (.long a1_decidingNanos))]) :: (a2, "treetune/match/Standing", [("treetune/match/Standing", "unitsPerPoint", "J", (.long a2_unitsPerPoint)), ("treetune/match/Standing", "games", "I", (.int a2_games)), ("treetune/match/Standing", "first", "I", (.int a2_first)), ("treetune/match/Standing", "wins", "I", (.int a2_wins)), ("treetune/match/Standing", "units", "J", (.long a2_units)), ("treetune/match/Standing", "squaredUnits", "J", (.long a2_squaredUnits)), ("treetune/match/Standing", "losses", "I", (.int a2_losses)), ("treetune/match/Standing", "draws", "I", (.int a2_draws)), ("treetune/match/Standing", "moves", "J", (.long a2_moves)), ("treetune/match/Standing", "simulations", "J", (.long a2_simulations)), ("treetune/match/Standing", "positions", "J", (.long a2_positions)), ("treetune/match/Standing", "decidingNanos", "J", (.long a2_decidingNanos))]) :: Ob, Ax)) rfl ?_
  refine Run.aloadN K d5_91 (pc' := 92) rfl rfl rfl ?_
  refine Run.dup K d5_92 (pc' := 93) rfl rfl ?_
  refine Run.getF K d5_93 (pc' := 96) rfl (hw _ (List.mem_of_getElem? (i := 40) rfl)) (i := 0) (j := 8) rfl rfl ?_
  refine Run.aloadN K d5_96 (pc' := 97) rfl rfl rfl ?_
  refine Run.getF K d5_97 (pc' := 100) rfl (hw _ (List.mem_of_getElem? (i := 40) rfl)) (i := 1) (j := 8) rfl rfl ?_
  refine Run.ladd K d5_100 (pc' := 101) rfl ?_
  refine Run.putF K d5_101 (pc' := 104) rfl (hw _ (List.mem_of_getElem? (i := 40) rfl)) (Or.inl (hw _ (List.mem_of_getElem? (i := 41) rfl))) (hw _ (List.mem_of_getElem? (i := 2) rfl)) (ty := .long) (by decide) rfl rfl (i := 0) (j := 8) rfl rfl (D' := ((a1, "treetune/match/Standing", [("treetune/match/Standing", "unitsPerPoint", "J", (.long a1_unitsPerPoint)), ("treetune/match/Standing", "games", "I", (.int (a1_games + a2_games))), ("treetune/match/Standing", "first", "I", (.int (a1_first + a2_first))), ("treetune/match/Standing", "wins", "I", (.int (a1_wins + a2_wins))), ("treetune/match/Standing", "units", "J", (.long (a1_units + a2_units))), ("treetune/match/Standing", "squaredUnits", "J", (.long (a1_squaredUnits + a2_squaredUnits))), ("treetune/match/Standing", "losses", "I", (.int (a1_losses + a2_losses))), ("treetune/match/Standing", "draws", "I", (.int (a1_draws + a2_draws))), ("treetune/match/Standing", "moves", "J", (.long (a1_moves + a2_moves))), ("treetune/match/Standing", "simulations", "J", (.long a1_simulations)), ("treetune/match/Standing", "positions", "J", (.long a1_positions)), ("treetune/match/Standing", "decidingNanos", "J", (.long a1_decidingNanos))]) :: (a2, "treetune/match/Standing", [("treetune/match/Standing", "unitsPerPoint", "J", (.long a2_unitsPerPoint)), ("treetune/match/Standing", "games", "I", (.int a2_games)), ("treetune/match/Standing", "first", "I", (.int a2_first)), ("treetune/match/Standing", "wins", "I", (.int a2_wins)), ("treetune/match/Standing", "units", "J", (.long a2_units)), ("treetune/match/Standing", "squaredUnits", "J", (.long a2_squaredUnits)), ("treetune/match/Standing", "losses", "I", (.int a2_losses)), ("treetune/match/Standing", "draws", "I", (.int a2_draws)), ("treetune/match/Standing", "moves", "J", (.long a2_moves)), ("treetune/match/Standing", "simulations", "J", (.long a2_simulations)), ("treetune/match/Standing", "positions", "J", (.long a2_positions)), ("treetune/match/Standing", "decidingNanos", "J", (.long a2_decidingNanos))]) :: Ob, Ax)) rfl ?_
  refine Run.aloadN K d5_104 (pc' := 105) rfl rfl rfl ?_
  refine Run.dup K d5_105 (pc' := 106) rfl rfl ?_
  refine Run.getF K d5_106 (pc' := 109) rfl (hw _ (List.mem_of_getElem? (i := 42) rfl)) (i := 0) (j := 9) rfl rfl ?_
  refine Run.aloadN K d5_109 (pc' := 110) rfl rfl rfl ?_
  refine Run.getF K d5_110 (pc' := 113) rfl (hw _ (List.mem_of_getElem? (i := 42) rfl)) (i := 1) (j := 9) rfl rfl ?_
  refine Run.ladd K d5_113 (pc' := 114) rfl ?_
  refine Run.putF K d5_114 (pc' := 117) rfl (hw _ (List.mem_of_getElem? (i := 42) rfl)) (Or.inl (hw _ (List.mem_of_getElem? (i := 43) rfl))) (hw _ (List.mem_of_getElem? (i := 2) rfl)) (ty := .long) (by decide) rfl rfl (i := 0) (j := 9) rfl rfl (D' := ((a1, "treetune/match/Standing", [("treetune/match/Standing", "unitsPerPoint", "J", (.long a1_unitsPerPoint)), ("treetune/match/Standing", "games", "I", (.int (a1_games + a2_games))), ("treetune/match/Standing", "first", "I", (.int (a1_first + a2_first))), ("treetune/match/Standing", "wins", "I", (.int (a1_wins + a2_wins))), ("treetune/match/Standing", "units", "J", (.long (a1_units + a2_units))), ("treetune/match/Standing", "squaredUnits", "J", (.long (a1_squaredUnits + a2_squaredUnits))), ("treetune/match/Standing", "losses", "I", (.int (a1_losses + a2_losses))), ("treetune/match/Standing", "draws", "I", (.int (a1_draws + a2_draws))), ("treetune/match/Standing", "moves", "J", (.long (a1_moves + a2_moves))), ("treetune/match/Standing", "simulations", "J", (.long (a1_simulations + a2_simulations))), ("treetune/match/Standing", "positions", "J", (.long a1_positions)), ("treetune/match/Standing", "decidingNanos", "J", (.long a1_decidingNanos))]) :: (a2, "treetune/match/Standing", [("treetune/match/Standing", "unitsPerPoint", "J", (.long a2_unitsPerPoint)), ("treetune/match/Standing", "games", "I", (.int a2_games)), ("treetune/match/Standing", "first", "I", (.int a2_first)), ("treetune/match/Standing", "wins", "I", (.int a2_wins)), ("treetune/match/Standing", "units", "J", (.long a2_units)), ("treetune/match/Standing", "squaredUnits", "J", (.long a2_squaredUnits)), ("treetune/match/Standing", "losses", "I", (.int a2_losses)), ("treetune/match/Standing", "draws", "I", (.int a2_draws)), ("treetune/match/Standing", "moves", "J", (.long a2_moves)), ("treetune/match/Standing", "simulations", "J", (.long a2_simulations)), ("treetune/match/Standing", "positions", "J", (.long a2_positions)), ("treetune/match/Standing", "decidingNanos", "J", (.long a2_decidingNanos))]) :: Ob, Ax)) rfl ?_
  refine Run.aloadN K d5_117 (pc' := 118) rfl rfl rfl ?_
  refine Run.dup K d5_118 (pc' := 119) rfl rfl ?_
  refine Run.getF K d5_119 (pc' := 122) rfl (hw _ (List.mem_of_getElem? (i := 44) rfl)) (i := 0) (j := 10) rfl rfl ?_
  refine Run.aloadN K d5_122 (pc' := 123) rfl rfl rfl ?_
  refine Run.getF K d5_123 (pc' := 126) rfl (hw _ (List.mem_of_getElem? (i := 44) rfl)) (i := 1) (j := 10) rfl rfl ?_
  refine Run.ladd K d5_126 (pc' := 127) rfl ?_
  refine Run.putF K d5_127 (pc' := 130) rfl (hw _ (List.mem_of_getElem? (i := 44) rfl)) (Or.inl (hw _ (List.mem_of_getElem? (i := 45) rfl))) (hw _ (List.mem_of_getElem? (i := 2) rfl)) (ty := .long) (by decide) rfl rfl (i := 0) (j := 10) rfl rfl (D' := ((a1, "treetune/match/Standing", [("treetune/match/Standing", "unitsPerPoint", "J", (.long a1_unitsPerPoint)), ("treetune/match/Standing", "games", "I", (.int (a1_games + a2_games))), ("treetune/match/Standing", "first", "I", (.int (a1_first + a2_first))), ("treetune/match/Standing", "wins", "I", (.int (a1_wins + a2_wins))), ("treetune/match/Standing", "units", "J", (.long (a1_units + a2_units))), ("treetune/match/Standing", "squaredUnits", "J", (.long (a1_squaredUnits + a2_squaredUnits))), ("treetune/match/Standing", "losses", "I", (.int (a1_losses + a2_losses))), ("treetune/match/Standing", "draws", "I", (.int (a1_draws + a2_draws))), ("treetune/match/Standing", "moves", "J", (.long (a1_moves + a2_moves))), ("treetune/match/Standing", "simulations", "J", (.long (a1_simulations + a2_simulations))), ("treetune/match/Standing", "positions", "J", (.long (a1_positions + a2_positions))), ("treetune/match/Standing", "decidingNanos", "J", (.long a1_decidingNanos))]) :: (a2, "treetune/match/Standing", [("treetune/match/Standing", "unitsPerPoint", "J", (.long a2_unitsPerPoint)), ("treetune/match/Standing", "games", "I", (.int a2_games)), ("treetune/match/Standing", "first", "I", (.int a2_first)), ("treetune/match/Standing", "wins", "I", (.int a2_wins)), ("treetune/match/Standing", "units", "J", (.long a2_units)), ("treetune/match/Standing", "squaredUnits", "J", (.long a2_squaredUnits)), ("treetune/match/Standing", "losses", "I", (.int a2_losses)), ("treetune/match/Standing", "draws", "I", (.int a2_draws)), ("treetune/match/Standing", "moves", "J", (.long a2_moves)), ("treetune/match/Standing", "simulations", "J", (.long a2_simulations)), ("treetune/match/Standing", "positions", "J", (.long a2_positions)), ("treetune/match/Standing", "decidingNanos", "J", (.long a2_decidingNanos))]) :: Ob, Ax)) rfl ?_
  refine Run.aloadN K d5_130 (pc' := 131) rfl rfl rfl ?_
  refine Run.dup K d5_131 (pc' := 132) rfl rfl ?_
  refine Run.getF K d5_132 (pc' := 135) rfl (hw _ (List.mem_of_getElem? (i := 46) rfl)) (i := 0) (j := 11) rfl rfl ?_
  refine Run.aloadN K d5_135 (pc' := 136) rfl rfl rfl ?_
  refine Run.getF K d5_136 (pc' := 139) rfl (hw _ (List.mem_of_getElem? (i := 46) rfl)) (i := 1) (j := 11) rfl rfl ?_
  refine Run.ladd K d5_139 (pc' := 140) rfl ?_
  refine Run.putF K d5_140 (pc' := 143) rfl (hw _ (List.mem_of_getElem? (i := 46) rfl)) (Or.inl (hw _ (List.mem_of_getElem? (i := 47) rfl))) (hw _ (List.mem_of_getElem? (i := 2) rfl)) (ty := .long) (by decide) rfl rfl (i := 0) (j := 11) rfl rfl (D' := ((a1, "treetune/match/Standing", [("treetune/match/Standing", "unitsPerPoint", "J", (.long a1_unitsPerPoint)), ("treetune/match/Standing", "games", "I", (.int (a1_games + a2_games))), ("treetune/match/Standing", "first", "I", (.int (a1_first + a2_first))), ("treetune/match/Standing", "wins", "I", (.int (a1_wins + a2_wins))), ("treetune/match/Standing", "units", "J", (.long (a1_units + a2_units))), ("treetune/match/Standing", "squaredUnits", "J", (.long (a1_squaredUnits + a2_squaredUnits))), ("treetune/match/Standing", "losses", "I", (.int (a1_losses + a2_losses))), ("treetune/match/Standing", "draws", "I", (.int (a1_draws + a2_draws))), ("treetune/match/Standing", "moves", "J", (.long (a1_moves + a2_moves))), ("treetune/match/Standing", "simulations", "J", (.long (a1_simulations + a2_simulations))), ("treetune/match/Standing", "positions", "J", (.long (a1_positions + a2_positions))), ("treetune/match/Standing", "decidingNanos", "J", (.long (a1_decidingNanos + a2_decidingNanos)))]) :: (a2, "treetune/match/Standing", [("treetune/match/Standing", "unitsPerPoint", "J", (.long a2_unitsPerPoint)), ("treetune/match/Standing", "games", "I", (.int a2_games)), ("treetune/match/Standing", "first", "I", (.int a2_first)), ("treetune/match/Standing", "wins", "I", (.int a2_wins)), ("treetune/match/Standing", "units", "J", (.long a2_units)), ("treetune/match/Standing", "squaredUnits", "J", (.long a2_squaredUnits)), ("treetune/match/Standing", "losses", "I", (.int a2_losses)), ("treetune/match/Standing", "draws", "I", (.int a2_draws)), ("treetune/match/Standing", "moves", "J", (.long a2_moves)), ("treetune/match/Standing", "simulations", "J", (.long a2_simulations)), ("treetune/match/Standing", "positions", "J", (.long a2_positions)), ("treetune/match/Standing", "decidingNanos", "J", (.long a2_decidingNanos))]) :: Ob, Ax)) rfl ?_
  exact Run.retV K d5_143 rfl (by decide) (by decide) ⟨rfl, rfl⟩
theorem d6_0 : decode method_2_code 0 = .ok (.iload_n 0, 1) := by decide +kernel
theorem d6_1 : decode method_2_code 1 = .ok (.ifCond .eq 12, 3) := by decide +kernel
theorem d6_4 : decode method_2_code 4 = .ok (.iload_n 1, 1) := by decide +kernel
theorem d6_5 : decode method_2_code 5 = .ok (.iconst 1, 1) := by decide +kernel
theorem d6_6 : decode method_2_code 6 = .ok (.if_icmp .ne 7, 3) := by decide +kernel
theorem d6_9 : decode method_2_code 9 = .ok (.iconst 1, 1) := by decide +kernel
theorem d6_10 : decode method_2_code 10 = .ok (.goto 4, 3) := by decide +kernel
theorem d6_13 : decode method_2_code 13 = .ok (.iconst 0, 1) := by decide +kernel
theorem d6_14 : decode method_2_code 14 = .ok (.ireturn, 1) := by decide +kernel
theorem pn_2 : plainName "treetune/match/StandingAddPinLaw" = true := by first | (simp [plainName, overriddenIn]; done) | decide +kernel
set_option maxRecDepth 65536 in
set_option maxHeartbeats 40000000 in
theorem rm6 (l : Launch) (Z : State) (a0 : Array Value) (n0 : Nat) (hw : ∀ d ∈ tables_1, d.before a0 Z = true) (ws : List Jvm.Cond) (p1 : Int32) (p2 : Int32) (Ob : List OObj) (Ax : List OArr) : Con l Z a0 n0 ws (⟨"treetune/match/StandingAddPinLaw", "win", "(ZI)I"⟩ : MethodName) method_2_code 2 (some .int) ({ frames := 0, cells := 0, slots := 0, locals := 0 } : Room) #[(.int p1), (.int p2)] (Ob, Ax) (fun vq Dq => ∃ (j51 : Int32), ((((p1 = (0 : Int32)) ∧ j51 = (0 : Int32)) ∨ ((¬ (p1 = (0 : Int32))) ∧ (p2 ≠ (1 : Int32)) ∧ j51 = (0 : Int32)) ∨ ((¬ (p1 = (0 : Int32))) ∧ (¬ (p2 ≠ (1 : Int32))) ∧ j51 = (1 : Int32)))) ∧ vq = (some (.int j51)) ∧ Dq = (Ob, Ax)) := by
  refine Con.of_run (plainFor_of_name pn_2) (L0 := #[.val (.int p1), .val (.int p2)]) (fun m => by first | (simp [entryFrame, mkF, argsToLocals, Value.category]; done) | rfl) ?_
  intro p e s m below meth c K
  refine Run.iloadN K d6_0 (pc' := 1) rfl rfl ?_
  refine Run.join1 (F := fun (j57 : Int32) => ((p1 = (0 : Int32)) ∧ j57 = (0 : Int32)) ∨ ((¬ (p1 = (0 : Int32))) ∧ (p2 ≠ (1 : Int32)) ∧ j57 = (0 : Int32)) ∨ ((¬ (p1 = (0 : Int32))) ∧ (¬ (p2 ≠ (1 : Int32))) ∧ j57 = (1 : Int32))) (D' := fun (j57 : Int32) => (Ob, Ax)) (cells' := 0) (slots' := 0) (pc' := 14) (L' := fun (j57 : Int32) => #[.val (.int p1), .val (.int p2)]) (S' := fun (j57 : Int32) => [(.int j57)]) ?_ (fun J1 => ?_)
  · intro j57 hjj57
    exact Run.retI K d6_14 rfl (by decide) (by decide) ⟨j57, hjj57, rfl, rfl⟩
  · skip
    refine Run.ifc K d6_1 (pT := 13) (pF := 4) (by decide) (by decide) rfl (fun (h1_57 : p1 = (0 : Int32)) => ?_) (fun (h1_57 : ¬ (p1 = (0 : Int32))) => ?_)
    · skip
      refine Run.iconst K d6_13 (pc' := 14) rfl (v := (0 : Int32)) rfl ?_
      exact J1 _ (Or.inl ⟨h1_57, rfl⟩)
    · skip
      refine Run.iloadN K d6_4 (pc' := 5) rfl rfl ?_
      refine Run.iconst K d6_5 (pc' := 6) rfl (v := (1 : Int32)) rfl ?_
      refine Run.icmp K d6_6 (pT := 13) (pF := 9) (by decide) (by decide) rfl (fun (h6_58 : p2 ≠ (1 : Int32)) => ?_) (fun (h6_58 : ¬ (p2 ≠ (1 : Int32))) => ?_)
      · skip
        refine Run.iconst K d6_13 (pc' := 14) rfl (v := (0 : Int32)) rfl ?_
        exact J1 _ (Or.inr (Or.inl ⟨h1_57, h6_58, rfl⟩))
      · skip
        refine Run.iconst K d6_9 (pc' := 10) rfl (v := (1 : Int32)) rfl ?_
        refine Run.goto K d6_10 (pc' := 14) (by decide) (by decide) ?_
        exact J1 _ (Or.inr (Or.inr (⟨h1_57, h6_58, rfl⟩)))
theorem d7_0 : decode method_3_code 0 = .ok (.iload_n 0, 1) := by decide +kernel
theorem d7_1 : decode method_3_code 1 = .ok (.ifCond .eq 12, 3) := by decide +kernel
theorem d7_4 : decode method_3_code 4 = .ok (.iload_n 1, 1) := by decide +kernel
theorem d7_5 : decode method_3_code 5 = .ok (.iconst 1, 1) := by decide +kernel
theorem d7_6 : decode method_3_code 6 = .ok (.if_icmp .eq 7, 3) := by decide +kernel
theorem d7_9 : decode method_3_code 9 = .ok (.iconst 1, 1) := by decide +kernel
theorem d7_10 : decode method_3_code 10 = .ok (.goto 4, 3) := by decide +kernel
theorem d7_13 : decode method_3_code 13 = .ok (.iconst 0, 1) := by decide +kernel
theorem d7_14 : decode method_3_code 14 = .ok (.ireturn, 1) := by decide +kernel
set_option maxRecDepth 65536 in
set_option maxHeartbeats 40000000 in
theorem rm7 (l : Launch) (Z : State) (a0 : Array Value) (n0 : Nat) (hw : ∀ d ∈ tables_1, d.before a0 Z = true) (ws : List Jvm.Cond) (p1 : Int32) (p2 : Int32) (Ob : List OObj) (Ax : List OArr) : Con l Z a0 n0 ws (⟨"treetune/match/StandingAddPinLaw", "draw", "(ZI)I"⟩ : MethodName) method_3_code 2 (some .int) ({ frames := 0, cells := 0, slots := 0, locals := 0 } : Room) #[(.int p1), (.int p2)] (Ob, Ax) (fun vq Dq => ∃ (j63 : Int32), ((((p1 = (0 : Int32)) ∧ j63 = (0 : Int32)) ∨ ((¬ (p1 = (0 : Int32))) ∧ (p2 = (1 : Int32)) ∧ j63 = (0 : Int32)) ∨ ((¬ (p1 = (0 : Int32))) ∧ (¬ (p2 = (1 : Int32))) ∧ j63 = (1 : Int32)))) ∧ vq = (some (.int j63)) ∧ Dq = (Ob, Ax)) := by
  refine Con.of_run (plainFor_of_name pn_2) (L0 := #[.val (.int p1), .val (.int p2)]) (fun m => by first | (simp [entryFrame, mkF, argsToLocals, Value.category]; done) | rfl) ?_
  intro p e s m below meth c K
  refine Run.iloadN K d7_0 (pc' := 1) rfl rfl ?_
  refine Run.join1 (F := fun (j69 : Int32) => ((p1 = (0 : Int32)) ∧ j69 = (0 : Int32)) ∨ ((¬ (p1 = (0 : Int32))) ∧ (p2 = (1 : Int32)) ∧ j69 = (0 : Int32)) ∨ ((¬ (p1 = (0 : Int32))) ∧ (¬ (p2 = (1 : Int32))) ∧ j69 = (1 : Int32))) (D' := fun (j69 : Int32) => (Ob, Ax)) (cells' := 0) (slots' := 0) (pc' := 14) (L' := fun (j69 : Int32) => #[.val (.int p1), .val (.int p2)]) (S' := fun (j69 : Int32) => [(.int j69)]) ?_ (fun J1 => ?_)
  · intro j69 hjj69
    exact Run.retI K d7_14 rfl (by decide) (by decide) ⟨j69, hjj69, rfl, rfl⟩
  · skip
    refine Run.ifc K d7_1 (pT := 13) (pF := 4) (by decide) (by decide) rfl (fun (h1_69 : p1 = (0 : Int32)) => ?_) (fun (h1_69 : ¬ (p1 = (0 : Int32))) => ?_)
    · skip
      refine Run.iconst K d7_13 (pc' := 14) rfl (v := (0 : Int32)) rfl ?_
      exact J1 _ (Or.inl ⟨h1_69, rfl⟩)
    · skip
      refine Run.iloadN K d7_4 (pc' := 5) rfl rfl ?_
      refine Run.iconst K d7_5 (pc' := 6) rfl (v := (1 : Int32)) rfl ?_
      refine Run.icmp K d7_6 (pT := 13) (pF := 9) (by decide) (by decide) rfl (fun (h6_70 : p2 = (1 : Int32)) => ?_) (fun (h6_70 : ¬ (p2 = (1 : Int32))) => ?_)
      · skip
        refine Run.iconst K d7_13 (pc' := 14) rfl (v := (0 : Int32)) rfl ?_
        exact J1 _ (Or.inr (Or.inl ⟨h1_69, h6_70, rfl⟩))
      · skip
        refine Run.iconst K d7_9 (pc' := 10) rfl (v := (1 : Int32)) rfl ?_
        refine Run.goto K d7_10 (pc' := 14) (by decide) (by decide) ?_
        exact J1 _ (Or.inr (Or.inr (⟨h1_69, h6_70, rfl⟩)))
theorem d8_0 : decode method_4_code 0 = .ok (.iload_n 0, 1) := by decide +kernel
theorem d8_1 : decode method_4_code 1 = .ok (.ifCond .eq 7, 3) := by decide +kernel
theorem d8_4 : decode method_4_code 4 = .ok (.iconst 0, 1) := by decide +kernel
theorem d8_5 : decode method_4_code 5 = .ok (.goto 4, 3) := by decide +kernel
theorem d8_8 : decode method_4_code 8 = .ok (.iconst 1, 1) := by decide +kernel
theorem d8_9 : decode method_4_code 9 = .ok (.ireturn, 1) := by decide +kernel
set_option maxRecDepth 65536 in
set_option maxHeartbeats 40000000 in
theorem rm8 (l : Launch) (Z : State) (a0 : Array Value) (n0 : Nat) (hw : ∀ d ∈ tables_1, d.before a0 Z = true) (ws : List Jvm.Cond) (p1 : Int32) (Ob : List OObj) (Ax : List OArr) : Con l Z a0 n0 ws (⟨"treetune/match/StandingAddPinLaw", "loss", "(Z)I"⟩ : MethodName) method_4_code 1 (some .int) ({ frames := 0, cells := 0, slots := 0, locals := 0 } : Room) #[(.int p1)] (Ob, Ax) (fun vq Dq => ∃ (j74 : Int32), ((((p1 = (0 : Int32)) ∧ j74 = (1 : Int32)) ∨ ((¬ (p1 = (0 : Int32))) ∧ j74 = (0 : Int32)))) ∧ vq = (some (.int j74)) ∧ Dq = (Ob, Ax)) := by
  refine Con.of_run (plainFor_of_name pn_2) (L0 := #[.val (.int p1)]) (fun m => by first | (simp [entryFrame, mkF, argsToLocals, Value.category]; done) | rfl) ?_
  intro p e s m below meth c K
  refine Run.iloadN K d8_0 (pc' := 1) rfl rfl ?_
  refine Run.join1 (F := fun (j78 : Int32) => ((p1 = (0 : Int32)) ∧ j78 = (1 : Int32)) ∨ ((¬ (p1 = (0 : Int32))) ∧ j78 = (0 : Int32))) (D' := fun (j78 : Int32) => (Ob, Ax)) (cells' := 0) (slots' := 0) (pc' := 9) (L' := fun (j78 : Int32) => #[.val (.int p1)]) (S' := fun (j78 : Int32) => [(.int j78)]) ?_ (fun J1 => ?_)
  · intro j78 hjj78
    exact Run.retI K d8_9 rfl (by decide) (by decide) ⟨j78, hjj78, rfl, rfl⟩
  · skip
    refine Run.ifc K d8_1 (pT := 8) (pF := 4) (by decide) (by decide) rfl (fun (h1_78 : p1 = (0 : Int32)) => ?_) (fun (h1_78 : ¬ (p1 = (0 : Int32))) => ?_)
    · skip
      refine Run.iconst K d8_8 (pc' := 9) rfl (v := (1 : Int32)) rfl ?_
      exact J1 _ (Or.inl ⟨h1_78, rfl⟩)
    · skip
      refine Run.iconst K d8_4 (pc' := 5) rfl (v := (0 : Int32)) rfl ?_
      refine Run.goto K d8_5 (pc' := 9) (by decide) (by decide) ?_
      exact J1 _ (Or.inr (⟨h1_78, rfl⟩))
theorem d9_0 : decode method_5_code 0 = .ok (.iload_n 0, 1) := by decide +kernel
theorem d9_1 : decode method_5_code 1 = .ok (.ifCond .eq 7, 3) := by decide +kernel
theorem d9_4 : decode method_5_code 4 = .ok (.iconst 1, 1) := by decide +kernel
theorem d9_5 : decode method_5_code 5 = .ok (.goto 4, 3) := by decide +kernel
theorem d9_8 : decode method_5_code 8 = .ok (.iconst 0, 1) := by decide +kernel
theorem d9_9 : decode method_5_code 9 = .ok (.ireturn, 1) := by decide +kernel
set_option maxRecDepth 65536 in
set_option maxHeartbeats 40000000 in
theorem rm9 (l : Launch) (Z : State) (a0 : Array Value) (n0 : Nat) (hw : ∀ d ∈ tables_1, d.before a0 Z = true) (ws : List Jvm.Cond) (p1 : Int32) (Ob : List OObj) (Ax : List OArr) : Con l Z a0 n0 ws (⟨"treetune/match/StandingAddPinLaw", "one", "(Z)I"⟩ : MethodName) method_5_code 1 (some .int) ({ frames := 0, cells := 0, slots := 0, locals := 0 } : Room) #[(.int p1)] (Ob, Ax) (fun vq Dq => ∃ (j82 : Int32), ((((p1 = (0 : Int32)) ∧ j82 = (0 : Int32)) ∨ ((¬ (p1 = (0 : Int32))) ∧ j82 = (1 : Int32)))) ∧ vq = (some (.int j82)) ∧ Dq = (Ob, Ax)) := by
  refine Con.of_run (plainFor_of_name pn_2) (L0 := #[.val (.int p1)]) (fun m => by first | (simp [entryFrame, mkF, argsToLocals, Value.category]; done) | rfl) ?_
  intro p e s m below meth c K
  refine Run.iloadN K d9_0 (pc' := 1) rfl rfl ?_
  refine Run.join1 (F := fun (j86 : Int32) => ((p1 = (0 : Int32)) ∧ j86 = (0 : Int32)) ∨ ((¬ (p1 = (0 : Int32))) ∧ j86 = (1 : Int32))) (D' := fun (j86 : Int32) => (Ob, Ax)) (cells' := 0) (slots' := 0) (pc' := 9) (L' := fun (j86 : Int32) => #[.val (.int p1)]) (S' := fun (j86 : Int32) => [(.int j86)]) ?_ (fun J1 => ?_)
  · intro j86 hjj86
    exact Run.retI K d9_9 rfl (by decide) (by decide) ⟨j86, hjj86, rfl, rfl⟩
  · skip
    refine Run.ifc K d9_1 (pT := 8) (pF := 4) (by decide) (by decide) rfl (fun (h1_86 : p1 = (0 : Int32)) => ?_) (fun (h1_86 : ¬ (p1 = (0 : Int32))) => ?_)
    · skip
      refine Run.iconst K d9_8 (pc' := 9) rfl (v := (0 : Int32)) rfl ?_
      exact J1 _ (Or.inl ⟨h1_86, rfl⟩)
    · skip
      refine Run.iconst K d9_4 (pc' := 5) rfl (v := (1 : Int32)) rfl ?_
      refine Run.goto K d9_5 (pc' := 9) (by decide) (by decide) ?_
      exact J1 _ (Or.inr (⟨h1_86, rfl⟩))
theorem d10_0 : decode prog_42_method_5_code 0 = .ok (.aload_n 0, 1) := by decide +kernel
theorem d10_1 : decode prog_42_method_5_code 1 = .ok (.getfield 19, 3) := by decide +kernel
theorem d10_4 : decode prog_42_method_5_code 4 = .ok (.ireturn, 1) := by decide +kernel
set_option maxRecDepth 65536 in
set_option maxHeartbeats 40000000 in
theorem rm10 (l : Launch) (Z : State) (a0 : Array Value) (n0 : Nat) (hw : ∀ d ∈ tables_1, d.before a0 Z = true) (ws : List Jvm.Cond) (a1 : Addr) (a1_unitsPerPoint : Int64) (a1_games : Int32) (a1_first : Int32) (a1_wins : Int32) (a1_units : Int64) (a1_squaredUnits : Int64) (a1_losses : Int32) (a1_draws : Int32) (a1_moves : Int64) (a1_simulations : Int64) (a1_positions : Int64) (a1_decidingNanos : Int64) (Ob : List OObj) (Ax : List OArr) : Con l Z a0 n0 ws (⟨"treetune/match/Standing", "games", "()I"⟩ : MethodName) prog_42_method_5_code 1 (some .int) ({ frames := 0, cells := 0, slots := 0, locals := 0 } : Room) #[(.ref a1)] ((a1, "treetune/match/Standing", [("treetune/match/Standing", "unitsPerPoint", "J", (.long a1_unitsPerPoint)), ("treetune/match/Standing", "games", "I", (.int a1_games)), ("treetune/match/Standing", "first", "I", (.int a1_first)), ("treetune/match/Standing", "wins", "I", (.int a1_wins)), ("treetune/match/Standing", "units", "J", (.long a1_units)), ("treetune/match/Standing", "squaredUnits", "J", (.long a1_squaredUnits)), ("treetune/match/Standing", "losses", "I", (.int a1_losses)), ("treetune/match/Standing", "draws", "I", (.int a1_draws)), ("treetune/match/Standing", "moves", "J", (.long a1_moves)), ("treetune/match/Standing", "simulations", "J", (.long a1_simulations)), ("treetune/match/Standing", "positions", "J", (.long a1_positions)), ("treetune/match/Standing", "decidingNanos", "J", (.long a1_decidingNanos))]) :: Ob, Ax) (Ret (some (.int a1_games)) ((a1, "treetune/match/Standing", [("treetune/match/Standing", "unitsPerPoint", "J", (.long a1_unitsPerPoint)), ("treetune/match/Standing", "games", "I", (.int a1_games)), ("treetune/match/Standing", "first", "I", (.int a1_first)), ("treetune/match/Standing", "wins", "I", (.int a1_wins)), ("treetune/match/Standing", "units", "J", (.long a1_units)), ("treetune/match/Standing", "squaredUnits", "J", (.long a1_squaredUnits)), ("treetune/match/Standing", "losses", "I", (.int a1_losses)), ("treetune/match/Standing", "draws", "I", (.int a1_draws)), ("treetune/match/Standing", "moves", "J", (.long a1_moves)), ("treetune/match/Standing", "simulations", "J", (.long a1_simulations)), ("treetune/match/Standing", "positions", "J", (.long a1_positions)), ("treetune/match/Standing", "decidingNanos", "J", (.long a1_decidingNanos))]) :: Ob, Ax)) := by
  refine Con.of_run (plainFor_of_name pn_1) (L0 := #[.val (.ref a1)]) (fun m => by first | (simp [entryFrame, mkF, argsToLocals, Value.category]; done) | rfl) ?_
  intro p e s m below meth c K
  refine Run.aloadN K d10_0 (pc' := 1) rfl rfl rfl ?_
  refine Run.getF K d10_1 (pc' := 4) rfl (hw _ (List.mem_of_getElem? (i := 21) rfl)) (i := 0) (j := 1) rfl rfl ?_
  exact Run.retI K d10_4 rfl (by decide) (by decide) ⟨rfl, rfl⟩
theorem d11_0 : decode prog_42_method_6_code 0 = .ok (.aload_n 0, 1) := by decide +kernel
theorem d11_1 : decode prog_42_method_6_code 1 = .ok (.getfield 29, 3) := by decide +kernel
theorem d11_4 : decode prog_42_method_6_code 4 = .ok (.ireturn, 1) := by decide +kernel
set_option maxRecDepth 65536 in
set_option maxHeartbeats 40000000 in
theorem rm11 (l : Launch) (Z : State) (a0 : Array Value) (n0 : Nat) (hw : ∀ d ∈ tables_1, d.before a0 Z = true) (ws : List Jvm.Cond) (a1 : Addr) (a1_unitsPerPoint : Int64) (a1_games : Int32) (a1_first : Int32) (a1_wins : Int32) (a1_units : Int64) (a1_squaredUnits : Int64) (a1_losses : Int32) (a1_draws : Int32) (a1_moves : Int64) (a1_simulations : Int64) (a1_positions : Int64) (a1_decidingNanos : Int64) (Ob : List OObj) (Ax : List OArr) : Con l Z a0 n0 ws (⟨"treetune/match/Standing", "wins", "()I"⟩ : MethodName) prog_42_method_6_code 1 (some .int) ({ frames := 0, cells := 0, slots := 0, locals := 0 } : Room) #[(.ref a1)] ((a1, "treetune/match/Standing", [("treetune/match/Standing", "unitsPerPoint", "J", (.long a1_unitsPerPoint)), ("treetune/match/Standing", "games", "I", (.int a1_games)), ("treetune/match/Standing", "first", "I", (.int a1_first)), ("treetune/match/Standing", "wins", "I", (.int a1_wins)), ("treetune/match/Standing", "units", "J", (.long a1_units)), ("treetune/match/Standing", "squaredUnits", "J", (.long a1_squaredUnits)), ("treetune/match/Standing", "losses", "I", (.int a1_losses)), ("treetune/match/Standing", "draws", "I", (.int a1_draws)), ("treetune/match/Standing", "moves", "J", (.long a1_moves)), ("treetune/match/Standing", "simulations", "J", (.long a1_simulations)), ("treetune/match/Standing", "positions", "J", (.long a1_positions)), ("treetune/match/Standing", "decidingNanos", "J", (.long a1_decidingNanos))]) :: Ob, Ax) (Ret (some (.int a1_wins)) ((a1, "treetune/match/Standing", [("treetune/match/Standing", "unitsPerPoint", "J", (.long a1_unitsPerPoint)), ("treetune/match/Standing", "games", "I", (.int a1_games)), ("treetune/match/Standing", "first", "I", (.int a1_first)), ("treetune/match/Standing", "wins", "I", (.int a1_wins)), ("treetune/match/Standing", "units", "J", (.long a1_units)), ("treetune/match/Standing", "squaredUnits", "J", (.long a1_squaredUnits)), ("treetune/match/Standing", "losses", "I", (.int a1_losses)), ("treetune/match/Standing", "draws", "I", (.int a1_draws)), ("treetune/match/Standing", "moves", "J", (.long a1_moves)), ("treetune/match/Standing", "simulations", "J", (.long a1_simulations)), ("treetune/match/Standing", "positions", "J", (.long a1_positions)), ("treetune/match/Standing", "decidingNanos", "J", (.long a1_decidingNanos))]) :: Ob, Ax)) := by
  refine Con.of_run (plainFor_of_name pn_1) (L0 := #[.val (.ref a1)]) (fun m => by first | (simp [entryFrame, mkF, argsToLocals, Value.category]; done) | rfl) ?_
  intro p e s m below meth c K
  refine Run.aloadN K d11_0 (pc' := 1) rfl rfl rfl ?_
  refine Run.getF K d11_1 (pc' := 4) rfl (hw _ (List.mem_of_getElem? (i := 25) rfl)) (i := 0) (j := 3) rfl rfl ?_
  exact Run.retI K d11_4 rfl (by decide) (by decide) ⟨rfl, rfl⟩
theorem d12_0 : decode prog_42_method_7_code 0 = .ok (.aload_n 0, 1) := by decide +kernel
theorem d12_1 : decode prog_42_method_7_code 1 = .ok (.getfield 32, 3) := by decide +kernel
theorem d12_4 : decode prog_42_method_7_code 4 = .ok (.ireturn, 1) := by decide +kernel
set_option maxRecDepth 65536 in
set_option maxHeartbeats 40000000 in
theorem rm12 (l : Launch) (Z : State) (a0 : Array Value) (n0 : Nat) (hw : ∀ d ∈ tables_1, d.before a0 Z = true) (ws : List Jvm.Cond) (a1 : Addr) (a1_unitsPerPoint : Int64) (a1_games : Int32) (a1_first : Int32) (a1_wins : Int32) (a1_units : Int64) (a1_squaredUnits : Int64) (a1_losses : Int32) (a1_draws : Int32) (a1_moves : Int64) (a1_simulations : Int64) (a1_positions : Int64) (a1_decidingNanos : Int64) (Ob : List OObj) (Ax : List OArr) : Con l Z a0 n0 ws (⟨"treetune/match/Standing", "draws", "()I"⟩ : MethodName) prog_42_method_7_code 1 (some .int) ({ frames := 0, cells := 0, slots := 0, locals := 0 } : Room) #[(.ref a1)] ((a1, "treetune/match/Standing", [("treetune/match/Standing", "unitsPerPoint", "J", (.long a1_unitsPerPoint)), ("treetune/match/Standing", "games", "I", (.int a1_games)), ("treetune/match/Standing", "first", "I", (.int a1_first)), ("treetune/match/Standing", "wins", "I", (.int a1_wins)), ("treetune/match/Standing", "units", "J", (.long a1_units)), ("treetune/match/Standing", "squaredUnits", "J", (.long a1_squaredUnits)), ("treetune/match/Standing", "losses", "I", (.int a1_losses)), ("treetune/match/Standing", "draws", "I", (.int a1_draws)), ("treetune/match/Standing", "moves", "J", (.long a1_moves)), ("treetune/match/Standing", "simulations", "J", (.long a1_simulations)), ("treetune/match/Standing", "positions", "J", (.long a1_positions)), ("treetune/match/Standing", "decidingNanos", "J", (.long a1_decidingNanos))]) :: Ob, Ax) (Ret (some (.int a1_draws)) ((a1, "treetune/match/Standing", [("treetune/match/Standing", "unitsPerPoint", "J", (.long a1_unitsPerPoint)), ("treetune/match/Standing", "games", "I", (.int a1_games)), ("treetune/match/Standing", "first", "I", (.int a1_first)), ("treetune/match/Standing", "wins", "I", (.int a1_wins)), ("treetune/match/Standing", "units", "J", (.long a1_units)), ("treetune/match/Standing", "squaredUnits", "J", (.long a1_squaredUnits)), ("treetune/match/Standing", "losses", "I", (.int a1_losses)), ("treetune/match/Standing", "draws", "I", (.int a1_draws)), ("treetune/match/Standing", "moves", "J", (.long a1_moves)), ("treetune/match/Standing", "simulations", "J", (.long a1_simulations)), ("treetune/match/Standing", "positions", "J", (.long a1_positions)), ("treetune/match/Standing", "decidingNanos", "J", (.long a1_decidingNanos))]) :: Ob, Ax)) := by
  refine Con.of_run (plainFor_of_name pn_1) (L0 := #[.val (.ref a1)]) (fun m => by first | (simp [entryFrame, mkF, argsToLocals, Value.category]; done) | rfl) ?_
  intro p e s m below meth c K
  refine Run.aloadN K d12_0 (pc' := 1) rfl rfl rfl ?_
  refine Run.getF K d12_1 (pc' := 4) rfl (hw _ (List.mem_of_getElem? (i := 38) rfl)) (i := 0) (j := 7) rfl rfl ?_
  exact Run.retI K d12_4 rfl (by decide) (by decide) ⟨rfl, rfl⟩
theorem d13_0 : decode prog_42_method_8_code 0 = .ok (.aload_n 0, 1) := by decide +kernel
theorem d13_1 : decode prog_42_method_8_code 1 = .ok (.getfield 26, 3) := by decide +kernel
theorem d13_4 : decode prog_42_method_8_code 4 = .ok (.ireturn, 1) := by decide +kernel
set_option maxRecDepth 65536 in
set_option maxHeartbeats 40000000 in
theorem rm13 (l : Launch) (Z : State) (a0 : Array Value) (n0 : Nat) (hw : ∀ d ∈ tables_1, d.before a0 Z = true) (ws : List Jvm.Cond) (a1 : Addr) (a1_unitsPerPoint : Int64) (a1_games : Int32) (a1_first : Int32) (a1_wins : Int32) (a1_units : Int64) (a1_squaredUnits : Int64) (a1_losses : Int32) (a1_draws : Int32) (a1_moves : Int64) (a1_simulations : Int64) (a1_positions : Int64) (a1_decidingNanos : Int64) (Ob : List OObj) (Ax : List OArr) : Con l Z a0 n0 ws (⟨"treetune/match/Standing", "losses", "()I"⟩ : MethodName) prog_42_method_8_code 1 (some .int) ({ frames := 0, cells := 0, slots := 0, locals := 0 } : Room) #[(.ref a1)] ((a1, "treetune/match/Standing", [("treetune/match/Standing", "unitsPerPoint", "J", (.long a1_unitsPerPoint)), ("treetune/match/Standing", "games", "I", (.int a1_games)), ("treetune/match/Standing", "first", "I", (.int a1_first)), ("treetune/match/Standing", "wins", "I", (.int a1_wins)), ("treetune/match/Standing", "units", "J", (.long a1_units)), ("treetune/match/Standing", "squaredUnits", "J", (.long a1_squaredUnits)), ("treetune/match/Standing", "losses", "I", (.int a1_losses)), ("treetune/match/Standing", "draws", "I", (.int a1_draws)), ("treetune/match/Standing", "moves", "J", (.long a1_moves)), ("treetune/match/Standing", "simulations", "J", (.long a1_simulations)), ("treetune/match/Standing", "positions", "J", (.long a1_positions)), ("treetune/match/Standing", "decidingNanos", "J", (.long a1_decidingNanos))]) :: Ob, Ax) (Ret (some (.int a1_losses)) ((a1, "treetune/match/Standing", [("treetune/match/Standing", "unitsPerPoint", "J", (.long a1_unitsPerPoint)), ("treetune/match/Standing", "games", "I", (.int a1_games)), ("treetune/match/Standing", "first", "I", (.int a1_first)), ("treetune/match/Standing", "wins", "I", (.int a1_wins)), ("treetune/match/Standing", "units", "J", (.long a1_units)), ("treetune/match/Standing", "squaredUnits", "J", (.long a1_squaredUnits)), ("treetune/match/Standing", "losses", "I", (.int a1_losses)), ("treetune/match/Standing", "draws", "I", (.int a1_draws)), ("treetune/match/Standing", "moves", "J", (.long a1_moves)), ("treetune/match/Standing", "simulations", "J", (.long a1_simulations)), ("treetune/match/Standing", "positions", "J", (.long a1_positions)), ("treetune/match/Standing", "decidingNanos", "J", (.long a1_decidingNanos))]) :: Ob, Ax)) := by
  refine Con.of_run (plainFor_of_name pn_1) (L0 := #[.val (.ref a1)]) (fun m => by first | (simp [entryFrame, mkF, argsToLocals, Value.category]; done) | rfl) ?_
  intro p e s m below meth c K
  refine Run.aloadN K d13_0 (pc' := 1) rfl rfl rfl ?_
  refine Run.getF K d13_1 (pc' := 4) rfl (hw _ (List.mem_of_getElem? (i := 31) rfl)) (i := 0) (j := 6) rfl rfl ?_
  exact Run.retI K d13_4 rfl (by decide) (by decide) ⟨rfl, rfl⟩
theorem d14_0 : decode prog_42_method_9_code 0 = .ok (.aload_n 0, 1) := by decide +kernel
theorem d14_1 : decode prog_42_method_9_code 1 = .ok (.getfield 23, 3) := by decide +kernel
theorem d14_4 : decode prog_42_method_9_code 4 = .ok (.ireturn, 1) := by decide +kernel
set_option maxRecDepth 65536 in
set_option maxHeartbeats 40000000 in
theorem rm14 (l : Launch) (Z : State) (a0 : Array Value) (n0 : Nat) (hw : ∀ d ∈ tables_1, d.before a0 Z = true) (ws : List Jvm.Cond) (a1 : Addr) (a1_unitsPerPoint : Int64) (a1_games : Int32) (a1_first : Int32) (a1_wins : Int32) (a1_units : Int64) (a1_squaredUnits : Int64) (a1_losses : Int32) (a1_draws : Int32) (a1_moves : Int64) (a1_simulations : Int64) (a1_positions : Int64) (a1_decidingNanos : Int64) (Ob : List OObj) (Ax : List OArr) : Con l Z a0 n0 ws (⟨"treetune/match/Standing", "first", "()I"⟩ : MethodName) prog_42_method_9_code 1 (some .int) ({ frames := 0, cells := 0, slots := 0, locals := 0 } : Room) #[(.ref a1)] ((a1, "treetune/match/Standing", [("treetune/match/Standing", "unitsPerPoint", "J", (.long a1_unitsPerPoint)), ("treetune/match/Standing", "games", "I", (.int a1_games)), ("treetune/match/Standing", "first", "I", (.int a1_first)), ("treetune/match/Standing", "wins", "I", (.int a1_wins)), ("treetune/match/Standing", "units", "J", (.long a1_units)), ("treetune/match/Standing", "squaredUnits", "J", (.long a1_squaredUnits)), ("treetune/match/Standing", "losses", "I", (.int a1_losses)), ("treetune/match/Standing", "draws", "I", (.int a1_draws)), ("treetune/match/Standing", "moves", "J", (.long a1_moves)), ("treetune/match/Standing", "simulations", "J", (.long a1_simulations)), ("treetune/match/Standing", "positions", "J", (.long a1_positions)), ("treetune/match/Standing", "decidingNanos", "J", (.long a1_decidingNanos))]) :: Ob, Ax) (Ret (some (.int a1_first)) ((a1, "treetune/match/Standing", [("treetune/match/Standing", "unitsPerPoint", "J", (.long a1_unitsPerPoint)), ("treetune/match/Standing", "games", "I", (.int a1_games)), ("treetune/match/Standing", "first", "I", (.int a1_first)), ("treetune/match/Standing", "wins", "I", (.int a1_wins)), ("treetune/match/Standing", "units", "J", (.long a1_units)), ("treetune/match/Standing", "squaredUnits", "J", (.long a1_squaredUnits)), ("treetune/match/Standing", "losses", "I", (.int a1_losses)), ("treetune/match/Standing", "draws", "I", (.int a1_draws)), ("treetune/match/Standing", "moves", "J", (.long a1_moves)), ("treetune/match/Standing", "simulations", "J", (.long a1_simulations)), ("treetune/match/Standing", "positions", "J", (.long a1_positions)), ("treetune/match/Standing", "decidingNanos", "J", (.long a1_decidingNanos))]) :: Ob, Ax)) := by
  refine Con.of_run (plainFor_of_name pn_1) (L0 := #[.val (.ref a1)]) (fun m => by first | (simp [entryFrame, mkF, argsToLocals, Value.category]; done) | rfl) ?_
  intro p e s m below meth c K
  refine Run.aloadN K d14_0 (pc' := 1) rfl rfl rfl ?_
  refine Run.getF K d14_1 (pc' := 4) rfl (hw _ (List.mem_of_getElem? (i := 23) rfl)) (i := 0) (j := 2) rfl rfl ?_
  exact Run.retI K d14_4 rfl (by decide) (by decide) ⟨rfl, rfl⟩
theorem fs_0 {Z : State} {a0 : Array Value} (hw : ∀ d ∈ tables_1, d.before a0 Z = true) : FieldsOk Z a0 "treetune/match/Standing" [("treetune/match/Standing", "unitsPerPoint", "J", (.long (0 : Int64))), ("treetune/match/Standing", "games", "I", (.int (0 : Int32))), ("treetune/match/Standing", "first", "I", (.int (0 : Int32))), ("treetune/match/Standing", "wins", "I", (.int (0 : Int32))), ("treetune/match/Standing", "units", "J", (.long (0 : Int64))), ("treetune/match/Standing", "squaredUnits", "J", (.long (0 : Int64))), ("treetune/match/Standing", "losses", "I", (.int (0 : Int32))), ("treetune/match/Standing", "draws", "I", (.int (0 : Int32))), ("treetune/match/Standing", "moves", "J", (.long (0 : Int64))), ("treetune/match/Standing", "simulations", "J", (.long (0 : Int64))), ("treetune/match/Standing", "positions", "J", (.long (0 : Int64))), ("treetune/match/Standing", "decidingNanos", "J", (.long (0 : Int64)))] := (FieldsOk.cons (Or.inr (hw _ (List.mem_of_getElem? (i := 15) rfl))) (ty := .long) (by decide) rfl (by decide) (FieldsOk.cons (Or.inl (hw _ (List.mem_of_getElem? (i := 22) rfl))) (ty := .int) (by decide) rfl (by decide) (FieldsOk.cons (Or.inl (hw _ (List.mem_of_getElem? (i := 24) rfl))) (ty := .int) (by decide) rfl (by decide) (FieldsOk.cons (Or.inl (hw _ (List.mem_of_getElem? (i := 26) rfl))) (ty := .int) (by decide) rfl (by decide) (FieldsOk.cons (Or.inl (hw _ (List.mem_of_getElem? (i := 28) rfl))) (ty := .long) (by decide) rfl (by decide) (FieldsOk.cons (Or.inl (hw _ (List.mem_of_getElem? (i := 30) rfl))) (ty := .long) (by decide) rfl (by decide) (FieldsOk.cons (Or.inl (hw _ (List.mem_of_getElem? (i := 32) rfl))) (ty := .int) (by decide) rfl (by decide) (FieldsOk.cons (Or.inl (hw _ (List.mem_of_getElem? (i := 39) rfl))) (ty := .int) (by decide) rfl (by decide) (FieldsOk.cons (Or.inl (hw _ (List.mem_of_getElem? (i := 41) rfl))) (ty := .long) (by decide) rfl (by decide) (FieldsOk.cons (Or.inl (hw _ (List.mem_of_getElem? (i := 43) rfl))) (ty := .long) (by decide) rfl (by decide) (FieldsOk.cons (Or.inl (hw _ (List.mem_of_getElem? (i := 45) rfl))) (ty := .long) (by decide) rfl (by decide) (FieldsOk.cons (Or.inl (hw _ (List.mem_of_getElem? (i := 47) rfl))) (ty := .long) (by decide) rfl (by decide) (FieldsOk.nil _)))))))))))))
theorem pd_1 : parseMethodDescriptor "(I)V" = some ⟨[.int], none⟩ := by decide +kernel
theorem pd_2 : parseMethodDescriptor "(ZIZ)V" = some ⟨[.boolean, .int, .boolean], none⟩ := by decide +kernel
theorem pd_3 : parseMethodDescriptor "(Ltreetune/match/Standing;)V" = some ⟨[(.object "treetune/match/Standing")], none⟩ := by decide +kernel
theorem pd_4 : parseMethodDescriptor "(ZI)I" = some ⟨[.boolean, .int], some .int⟩ := by decide +kernel
theorem pd_5 : parseMethodDescriptor "(Z)I" = some ⟨[.boolean], some .int⟩ := by decide +kernel
theorem pd_6 : parseMethodDescriptor "()I" = some ⟨[], some .int⟩ := by decide +kernel
set_option maxRecDepth 65536 in
set_option maxHeartbeats 40000000 in
theorem rm0 (l : Launch) (Z : State) (a0 : Array Value) (n0 : Nat) (hw : ∀ d ∈ tables_1, d.before a0 Z = true) (ws : List Jvm.Cond) (p1 : Int32) (p2 : Int32) (p3 : Int32) (p4 : Int32) (p5 : Int32) : Con l Z a0 n0 ws x code maxLocals ret room_1 #[(.int p1), (.int p2), (.int p3), (.int p4), (.int p5)] ([], []) (fun vq _ => vq = some (.int 1)) := by
  refine Con.of_run (plainFor_of_name pn_2) (L0 := #[.val (.int p1), .val (.int p2), .val (.int p3), .val (.int p4), .val (.int p5), .unset, .unset, .unset, .unset, .unset, .unset, .unset, .unset, .unset, .unset, .unset, .unset, .unset, .unset, .unset, .unset]) (fun m => by first | (simp [entryFrame, mkF, argsToLocals, Value.category, maxLocals]; done) | rfl) ?_
  intro p e s m below meth c K
  refine Run.iconst K at_0 (pc' := 1) rfl (v := (1 : Int32)) rfl ?_
  refine Run.iloadN K at_1 (pc' := 2) rfl rfl ?_
  refine Run.iconst K at_2 (pc' := 3) rfl (v := (3 : Int32)) rfl ?_
  refine Run.iand K at_3 (pc' := 4) rfl ?_
  refine Run.iadd K at_4 (pc' := 5) rfl ?_
  refine Run.istore K at_5 (pc' := 7) rfl (L' := #[.val (.int p1), .val (.int p2), .val (.int p3), .val (.int p4), .val (.int p5), .val (.int ((1 : Int32) + (p1 &&& (3 : Int32)))), .unset, .unset, .unset, .unset, .unset, .unset, .unset, .unset, .unset, .unset, .unset, .unset, .unset, .unset, .unset]) rfl ?_
  refine Run.iloadN K at_7 (pc' := 8) rfl rfl ?_
  refine Run.iconst K at_8 (pc' := 9) rfl (v := (1 : Int32)) rfl ?_
  refine Run.iand K at_9 (pc' := 10) rfl ?_
  refine Run.join1 (F := fun (j90 : Int32) => (((p2 &&& (1 : Int32)) = (0 : Int32)) ∧ j90 = (0 : Int32)) ∨ ((¬ ((p2 &&& (1 : Int32)) = (0 : Int32))) ∧ j90 = (1 : Int32))) (D' := fun (j90 : Int32) => ([], [])) (cells' := 0) (slots' := 0) (pc' := 18) (L' := fun (j90 : Int32) => #[.val (.int p1), .val (.int p2), .val (.int p3), .val (.int p4), .val (.int p5), .val (.int ((1 : Int32) + (p1 &&& (3 : Int32)))), .unset, .unset, .unset, .unset, .unset, .unset, .unset, .unset, .unset, .unset, .unset, .unset, .unset, .unset, .unset]) (S' := fun (j90 : Int32) => [(.int j90)]) ?_ (fun J10 => ?_)
  · intro j90 hjj90
    refine Run.istore K at_18 (pc' := 20) rfl (L' := #[.val (.int p1), .val (.int p2), .val (.int p3), .val (.int p4), .val (.int p5), .val (.int ((1 : Int32) + (p1 &&& (3 : Int32)))), .val (.int j90), .unset, .unset, .unset, .unset, .unset, .unset, .unset, .unset, .unset, .unset, .unset, .unset, .unset, .unset]) rfl ?_
    refine Run.iloadN K at_20 (pc' := 21) rfl rfl ?_
    refine Run.iconst K at_21 (pc' := 22) rfl (v := (2 : Int32)) rfl ?_
    refine Run.iand K at_22 (pc' := 23) rfl ?_
    refine Run.join1 (F := fun (j93 : Int32) => (((p2 &&& (2 : Int32)) = (0 : Int32)) ∧ j93 = (0 : Int32)) ∨ ((¬ ((p2 &&& (2 : Int32)) = (0 : Int32))) ∧ j93 = (1 : Int32))) (D' := fun (j93 : Int32) => ([], [])) (cells' := 0) (slots' := 0) (pc' := 31) (L' := fun (j93 : Int32) => #[.val (.int p1), .val (.int p2), .val (.int p3), .val (.int p4), .val (.int p5), .val (.int ((1 : Int32) + (p1 &&& (3 : Int32)))), .val (.int j90), .unset, .unset, .unset, .unset, .unset, .unset, .unset, .unset, .unset, .unset, .unset, .unset, .unset, .unset]) (S' := fun (j93 : Int32) => [(.int j93)]) ?_ (fun J23 => ?_)
    · intro j93 hjj93
      refine Run.istore K at_31 (pc' := 33) rfl (L' := #[.val (.int p1), .val (.int p2), .val (.int p3), .val (.int p4), .val (.int p5), .val (.int ((1 : Int32) + (p1 &&& (3 : Int32)))), .val (.int j90), .val (.int j93), .unset, .unset, .unset, .unset, .unset, .unset, .unset, .unset, .unset, .unset, .unset, .unset, .unset]) rfl ?_
      refine Run.iloadN K at_33 (pc' := 34) rfl rfl ?_
      refine Run.iconst K at_34 (pc' := 35) rfl (v := (4 : Int32)) rfl ?_
      refine Run.iand K at_35 (pc' := 36) rfl ?_
      refine Run.join1 (F := fun (j96 : Int32) => (((p2 &&& (4 : Int32)) = (0 : Int32)) ∧ j96 = (0 : Int32)) ∨ ((¬ ((p2 &&& (4 : Int32)) = (0 : Int32))) ∧ j96 = (1 : Int32))) (D' := fun (j96 : Int32) => ([], [])) (cells' := 0) (slots' := 0) (pc' := 44) (L' := fun (j96 : Int32) => #[.val (.int p1), .val (.int p2), .val (.int p3), .val (.int p4), .val (.int p5), .val (.int ((1 : Int32) + (p1 &&& (3 : Int32)))), .val (.int j90), .val (.int j93), .unset, .unset, .unset, .unset, .unset, .unset, .unset, .unset, .unset, .unset, .unset, .unset, .unset]) (S' := fun (j96 : Int32) => [(.int j96)]) ?_ (fun J36 => ?_)
      · intro j96 hjj96
        refine Run.istore K at_44 (pc' := 46) rfl (L' := #[.val (.int p1), .val (.int p2), .val (.int p3), .val (.int p4), .val (.int p5), .val (.int ((1 : Int32) + (p1 &&& (3 : Int32)))), .val (.int j90), .val (.int j93), .val (.int j96), .unset, .unset, .unset, .unset, .unset, .unset, .unset, .unset, .unset, .unset, .unset, .unset]) rfl ?_
        refine Run.iloadN K at_46 (pc' := 47) rfl rfl ?_
        refine Run.bipush K at_47 (pc' := 49) rfl (v := (8 : Int32)) rfl ?_
        refine Run.iand K at_49 (pc' := 50) rfl ?_
        refine Run.join1 (F := fun (j99 : Int32) => (((p2 &&& (8 : Int32)) = (0 : Int32)) ∧ j99 = (0 : Int32)) ∨ ((¬ ((p2 &&& (8 : Int32)) = (0 : Int32))) ∧ j99 = (1 : Int32))) (D' := fun (j99 : Int32) => ([], [])) (cells' := 0) (slots' := 0) (pc' := 58) (L' := fun (j99 : Int32) => #[.val (.int p1), .val (.int p2), .val (.int p3), .val (.int p4), .val (.int p5), .val (.int ((1 : Int32) + (p1 &&& (3 : Int32)))), .val (.int j90), .val (.int j93), .val (.int j96), .unset, .unset, .unset, .unset, .unset, .unset, .unset, .unset, .unset, .unset, .unset, .unset]) (S' := fun (j99 : Int32) => [(.int j99)]) ?_ (fun J50 => ?_)
        · intro j99 hjj99
          refine Run.istore K at_58 (pc' := 60) rfl (L' := #[.val (.int p1), .val (.int p2), .val (.int p3), .val (.int p4), .val (.int p5), .val (.int ((1 : Int32) + (p1 &&& (3 : Int32)))), .val (.int j90), .val (.int j93), .val (.int j96), .val (.int j99), .unset, .unset, .unset, .unset, .unset, .unset, .unset, .unset, .unset, .unset, .unset]) rfl ?_
          refine Run.iloadN K at_60 (pc' := 61) rfl rfl ?_
          refine Run.bipush K at_61 (pc' := 63) rfl (v := (16 : Int32)) rfl ?_
          refine Run.iand K at_63 (pc' := 64) rfl ?_
          refine Run.join1 (F := fun (j102 : Int32) => (((p2 &&& (16 : Int32)) = (0 : Int32)) ∧ j102 = (0 : Int32)) ∨ ((¬ ((p2 &&& (16 : Int32)) = (0 : Int32))) ∧ j102 = (1 : Int32))) (D' := fun (j102 : Int32) => ([], [])) (cells' := 0) (slots' := 0) (pc' := 72) (L' := fun (j102 : Int32) => #[.val (.int p1), .val (.int p2), .val (.int p3), .val (.int p4), .val (.int p5), .val (.int ((1 : Int32) + (p1 &&& (3 : Int32)))), .val (.int j90), .val (.int j93), .val (.int j96), .val (.int j99), .unset, .unset, .unset, .unset, .unset, .unset, .unset, .unset, .unset, .unset, .unset]) (S' := fun (j102 : Int32) => [(.int j102)]) ?_ (fun J64 => ?_)
          · intro j102 hjj102
            refine Run.istore K at_72 (pc' := 74) rfl (L' := #[.val (.int p1), .val (.int p2), .val (.int p3), .val (.int p4), .val (.int p5), .val (.int ((1 : Int32) + (p1 &&& (3 : Int32)))), .val (.int j90), .val (.int j93), .val (.int j96), .val (.int j99), .val (.int j102), .unset, .unset, .unset, .unset, .unset, .unset, .unset, .unset, .unset, .unset]) rfl ?_
            refine Run.iloadN K at_74 (pc' := 75) rfl rfl ?_
            refine Run.bipush K at_75 (pc' := 77) rfl (v := (32 : Int32)) rfl ?_
            refine Run.iand K at_77 (pc' := 78) rfl ?_
            refine Run.join1 (F := fun (j105 : Int32) => (((p2 &&& (32 : Int32)) = (0 : Int32)) ∧ j105 = (0 : Int32)) ∨ ((¬ ((p2 &&& (32 : Int32)) = (0 : Int32))) ∧ j105 = (1 : Int32))) (D' := fun (j105 : Int32) => ([], [])) (cells' := 0) (slots' := 0) (pc' := 86) (L' := fun (j105 : Int32) => #[.val (.int p1), .val (.int p2), .val (.int p3), .val (.int p4), .val (.int p5), .val (.int ((1 : Int32) + (p1 &&& (3 : Int32)))), .val (.int j90), .val (.int j93), .val (.int j96), .val (.int j99), .val (.int j102), .unset, .unset, .unset, .unset, .unset, .unset, .unset, .unset, .unset, .unset]) (S' := fun (j105 : Int32) => [(.int j105)]) ?_ (fun J78 => ?_)
            · intro j105 hjj105
              refine Run.istore K at_86 (pc' := 88) rfl (L' := #[.val (.int p1), .val (.int p2), .val (.int p3), .val (.int p4), .val (.int p5), .val (.int ((1 : Int32) + (p1 &&& (3 : Int32)))), .val (.int j90), .val (.int j93), .val (.int j96), .val (.int j99), .val (.int j102), .val (.int j105), .unset, .unset, .unset, .unset, .unset, .unset, .unset, .unset, .unset]) rfl ?_
              refine Run.iconst K at_88 (pc' := 89) rfl (v := (1 : Int32)) rfl ?_
              refine Run.iloadN K at_89 (pc' := 90) rfl rfl ?_
              refine Run.ldcI K at_90 (pc' := 92) rfl (v := (2147483647 : Int32)) (hw _ (List.mem_of_getElem? (i := 0) rfl)) ?_
              refine Run.iand K at_92 (pc' := 93) rfl ?_
              refine Run.iload K at_93 (pc' := 95) rfl rfl ?_
              refine Run.irem K at_95 (pc' := 96) rfl (own_agents p1) ?_
              refine Run.iadd K at_96 (pc' := 97) rfl ?_
              refine Run.istore K at_97 (pc' := 99) rfl (L' := #[.val (.int p1), .val (.int p2), .val (.int p3), .val (.int p4), .val (.int p5), .val (.int ((1 : Int32) + (p1 &&& (3 : Int32)))), .val (.int j90), .val (.int j93), .val (.int j96), .val (.int j99), .val (.int j102), .val (.int j105), .val (.int ((1 : Int32) + ((p3 &&& (2147483647 : Int32)) % ((1 : Int32) + (p1 &&& (3 : Int32)))))), .unset, .unset, .unset, .unset, .unset, .unset, .unset, .unset]) rfl ?_
              refine Run.iconst K at_99 (pc' := 100) rfl (v := (1 : Int32)) rfl ?_
              refine Run.iloadN K at_100 (pc' := 101) rfl rfl ?_
              refine Run.ldcI K at_101 (pc' := 103) rfl (v := (2147483647 : Int32)) (hw _ (List.mem_of_getElem? (i := 0) rfl)) ?_
              refine Run.iand K at_103 (pc' := 104) rfl ?_
              refine Run.iload K at_104 (pc' := 106) rfl rfl ?_
              refine Run.irem K at_106 (pc' := 107) rfl (own_agents p1) ?_
              refine Run.iadd K at_107 (pc' := 108) rfl ?_
              refine Run.istore K at_108 (pc' := 110) rfl (L' := #[.val (.int p1), .val (.int p2), .val (.int p3), .val (.int p4), .val (.int p5), .val (.int ((1 : Int32) + (p1 &&& (3 : Int32)))), .val (.int j90), .val (.int j93), .val (.int j96), .val (.int j99), .val (.int j102), .val (.int j105), .val (.int ((1 : Int32) + ((p3 &&& (2147483647 : Int32)) % ((1 : Int32) + (p1 &&& (3 : Int32)))))), .val (.int ((1 : Int32) + ((p4 &&& (2147483647 : Int32)) % ((1 : Int32) + (p1 &&& (3 : Int32)))))), .unset, .unset, .unset, .unset, .unset, .unset, .unset]) rfl ?_
              refine Run.iconst K at_110 (pc' := 111) rfl (v := (1 : Int32)) rfl ?_
              refine Run.iload K at_111 (pc' := 113) rfl rfl ?_
              refine Run.ldcI K at_113 (pc' := 115) rfl (v := (2147483647 : Int32)) (hw _ (List.mem_of_getElem? (i := 0) rfl)) ?_
              refine Run.iand K at_115 (pc' := 116) rfl ?_
              refine Run.iload K at_116 (pc' := 118) rfl rfl ?_
              refine Run.irem K at_118 (pc' := 119) rfl (own_agents p1) ?_
              refine Run.iadd K at_119 (pc' := 120) rfl ?_
              refine Run.istore K at_120 (pc' := 122) rfl (L' := #[.val (.int p1), .val (.int p2), .val (.int p3), .val (.int p4), .val (.int p5), .val (.int ((1 : Int32) + (p1 &&& (3 : Int32)))), .val (.int j90), .val (.int j93), .val (.int j96), .val (.int j99), .val (.int j102), .val (.int j105), .val (.int ((1 : Int32) + ((p3 &&& (2147483647 : Int32)) % ((1 : Int32) + (p1 &&& (3 : Int32)))))), .val (.int ((1 : Int32) + ((p4 &&& (2147483647 : Int32)) % ((1 : Int32) + (p1 &&& (3 : Int32)))))), .val (.int ((1 : Int32) + ((p5 &&& (2147483647 : Int32)) % ((1 : Int32) + (p1 &&& (3 : Int32)))))), .unset, .unset, .unset, .unset, .unset, .unset]) rfl ?_
              refine Run.newO K at_122 (pc' := 125) rfl (hw _ (List.mem_of_getElem? (i := 1) rfl)) (hw _ (List.mem_of_getElem? (i := 2) rfl)) (hw _ (List.mem_of_getElem? (i := 3) rfl)) (fs_0 hw) (cells' := 1) (slots' := 12) rfl rfl (by decide) (by decide) (fun n106 => ?_)
              refine Run.as (D' := ([(n106, "treetune/match/Standing", [("treetune/match/Standing", "unitsPerPoint", "J", (.long (0 : Int64))), ("treetune/match/Standing", "games", "I", (.int (0 : Int32))), ("treetune/match/Standing", "first", "I", (.int (0 : Int32))), ("treetune/match/Standing", "wins", "I", (.int (0 : Int32))), ("treetune/match/Standing", "units", "J", (.long (0 : Int64))), ("treetune/match/Standing", "squaredUnits", "J", (.long (0 : Int64))), ("treetune/match/Standing", "losses", "I", (.int (0 : Int32))), ("treetune/match/Standing", "draws", "I", (.int (0 : Int32))), ("treetune/match/Standing", "moves", "J", (.long (0 : Int64))), ("treetune/match/Standing", "simulations", "J", (.long (0 : Int64))), ("treetune/match/Standing", "positions", "J", (.long (0 : Int64))), ("treetune/match/Standing", "decidingNanos", "J", (.long (0 : Int64)))])], [])) rfl ?_
              refine Run.dup K at_125 (pc' := 126) rfl rfl ?_
              refine Run.iload K at_126 (pc' := 128) rfl rfl ?_
              refine Run.callI K at_128 (pc' := 131) rfl rfl (hw _ (List.mem_of_getElem? (i := 4) rfl)) (hw _ (List.mem_of_getElem? (i := 5) rfl)) (hw _ (List.mem_of_getElem? (i := 3) rfl)) (hw _ (List.mem_of_getElem? (i := 6) rfl)) (by decide) (a := n106) (rm1 l Z a0 n0 hw [] (n106) (((1 : Int32) + (p1 &&& (3 : Int32)))) ((0 : Int64)) ((0 : Int32)) ((0 : Int32)) ((0 : Int32)) ((0 : Int64)) ((0 : Int64)) ((0 : Int32)) ((0 : Int32)) ((0 : Int64)) ((0 : Int64)) ((0 : Int64)) ((0 : Int64)) ([]) ([]) (own_agents4 p1)) (argsL := [(.int ((1 : Int32) + (p1 &&& (3 : Int32))))]) (rest := [(.ref n106)]) rfl rfl pd_1 rfl (W := 1) rfl (by decide) (by decide) (cells' := 1) (slots' := 12) rfl rfl (by decide) (by decide) ?_
              intro vq Dq hq
              obtain ⟨c107, rfl, rfl⟩ := hq
              refine Run.as2 (D' := ([(n106, "treetune/match/Standing", [("treetune/match/Standing", "unitsPerPoint", "J", (.long (c107.toInt64))), ("treetune/match/Standing", "games", "I", (.int (0 : Int32))), ("treetune/match/Standing", "first", "I", (.int (0 : Int32))), ("treetune/match/Standing", "wins", "I", (.int (0 : Int32))), ("treetune/match/Standing", "units", "J", (.long (0 : Int64))), ("treetune/match/Standing", "squaredUnits", "J", (.long (0 : Int64))), ("treetune/match/Standing", "losses", "I", (.int (0 : Int32))), ("treetune/match/Standing", "draws", "I", (.int (0 : Int32))), ("treetune/match/Standing", "moves", "J", (.long (0 : Int64))), ("treetune/match/Standing", "simulations", "J", (.long (0 : Int64))), ("treetune/match/Standing", "positions", "J", (.long (0 : Int64))), ("treetune/match/Standing", "decidingNanos", "J", (.long (0 : Int64)))])], [])) (S' := [(.ref n106)]) rfl rfl ?_
              refine Run.astore K at_131 (pc' := 133) rfl rfl (L' := #[.val (.int p1), .val (.int p2), .val (.int p3), .val (.int p4), .val (.int p5), .val (.int ((1 : Int32) + (p1 &&& (3 : Int32)))), .val (.int j90), .val (.int j93), .val (.int j96), .val (.int j99), .val (.int j102), .val (.int j105), .val (.int ((1 : Int32) + ((p3 &&& (2147483647 : Int32)) % ((1 : Int32) + (p1 &&& (3 : Int32)))))), .val (.int ((1 : Int32) + ((p4 &&& (2147483647 : Int32)) % ((1 : Int32) + (p1 &&& (3 : Int32)))))), .val (.int ((1 : Int32) + ((p5 &&& (2147483647 : Int32)) % ((1 : Int32) + (p1 &&& (3 : Int32)))))), .val (.ref n106), .unset, .unset, .unset, .unset, .unset]) rfl ?_
              refine Run.newO K at_133 (pc' := 136) rfl (hw _ (List.mem_of_getElem? (i := 1) rfl)) (hw _ (List.mem_of_getElem? (i := 2) rfl)) (hw _ (List.mem_of_getElem? (i := 3) rfl)) (fs_0 hw) (cells' := 2) (slots' := 24) rfl rfl (by decide) (by decide) (fun n109 => ?_)
              refine Run.as (D' := ([(n109, "treetune/match/Standing", [("treetune/match/Standing", "unitsPerPoint", "J", (.long (0 : Int64))), ("treetune/match/Standing", "games", "I", (.int (0 : Int32))), ("treetune/match/Standing", "first", "I", (.int (0 : Int32))), ("treetune/match/Standing", "wins", "I", (.int (0 : Int32))), ("treetune/match/Standing", "units", "J", (.long (0 : Int64))), ("treetune/match/Standing", "squaredUnits", "J", (.long (0 : Int64))), ("treetune/match/Standing", "losses", "I", (.int (0 : Int32))), ("treetune/match/Standing", "draws", "I", (.int (0 : Int32))), ("treetune/match/Standing", "moves", "J", (.long (0 : Int64))), ("treetune/match/Standing", "simulations", "J", (.long (0 : Int64))), ("treetune/match/Standing", "positions", "J", (.long (0 : Int64))), ("treetune/match/Standing", "decidingNanos", "J", (.long (0 : Int64)))]), (n106, "treetune/match/Standing", [("treetune/match/Standing", "unitsPerPoint", "J", (.long (c107.toInt64))), ("treetune/match/Standing", "games", "I", (.int (0 : Int32))), ("treetune/match/Standing", "first", "I", (.int (0 : Int32))), ("treetune/match/Standing", "wins", "I", (.int (0 : Int32))), ("treetune/match/Standing", "units", "J", (.long (0 : Int64))), ("treetune/match/Standing", "squaredUnits", "J", (.long (0 : Int64))), ("treetune/match/Standing", "losses", "I", (.int (0 : Int32))), ("treetune/match/Standing", "draws", "I", (.int (0 : Int32))), ("treetune/match/Standing", "moves", "J", (.long (0 : Int64))), ("treetune/match/Standing", "simulations", "J", (.long (0 : Int64))), ("treetune/match/Standing", "positions", "J", (.long (0 : Int64))), ("treetune/match/Standing", "decidingNanos", "J", (.long (0 : Int64)))])], [])) rfl ?_
              refine Run.dup K at_136 (pc' := 137) rfl rfl ?_
              refine Run.iload K at_137 (pc' := 139) rfl rfl ?_
              refine Run.callI K at_139 (pc' := 142) rfl rfl (hw _ (List.mem_of_getElem? (i := 4) rfl)) (hw _ (List.mem_of_getElem? (i := 5) rfl)) (hw _ (List.mem_of_getElem? (i := 3) rfl)) (hw _ (List.mem_of_getElem? (i := 6) rfl)) (by decide) (a := n109) (rm1 l Z a0 n0 hw [] (n109) (((1 : Int32) + (p1 &&& (3 : Int32)))) ((0 : Int64)) ((0 : Int32)) ((0 : Int32)) ((0 : Int32)) ((0 : Int64)) ((0 : Int64)) ((0 : Int32)) ((0 : Int32)) ((0 : Int64)) ((0 : Int64)) ((0 : Int64)) ((0 : Int64)) ([(n106, "treetune/match/Standing", [("treetune/match/Standing", "unitsPerPoint", "J", (.long (c107.toInt64))), ("treetune/match/Standing", "games", "I", (.int (0 : Int32))), ("treetune/match/Standing", "first", "I", (.int (0 : Int32))), ("treetune/match/Standing", "wins", "I", (.int (0 : Int32))), ("treetune/match/Standing", "units", "J", (.long (0 : Int64))), ("treetune/match/Standing", "squaredUnits", "J", (.long (0 : Int64))), ("treetune/match/Standing", "losses", "I", (.int (0 : Int32))), ("treetune/match/Standing", "draws", "I", (.int (0 : Int32))), ("treetune/match/Standing", "moves", "J", (.long (0 : Int64))), ("treetune/match/Standing", "simulations", "J", (.long (0 : Int64))), ("treetune/match/Standing", "positions", "J", (.long (0 : Int64))), ("treetune/match/Standing", "decidingNanos", "J", (.long (0 : Int64)))])]) ([]) (own_agents4 p1)) (argsL := [(.int ((1 : Int32) + (p1 &&& (3 : Int32))))]) (rest := [(.ref n109)]) rfl rfl pd_1 rfl (W := 1) rfl (by decide) (by decide) (cells' := 2) (slots' := 24) rfl rfl (by decide) (by decide) ?_
              intro vq Dq hq
              obtain ⟨c110, rfl, rfl⟩ := hq
              refine Run.as2 (D' := ([(n109, "treetune/match/Standing", [("treetune/match/Standing", "unitsPerPoint", "J", (.long (c110.toInt64))), ("treetune/match/Standing", "games", "I", (.int (0 : Int32))), ("treetune/match/Standing", "first", "I", (.int (0 : Int32))), ("treetune/match/Standing", "wins", "I", (.int (0 : Int32))), ("treetune/match/Standing", "units", "J", (.long (0 : Int64))), ("treetune/match/Standing", "squaredUnits", "J", (.long (0 : Int64))), ("treetune/match/Standing", "losses", "I", (.int (0 : Int32))), ("treetune/match/Standing", "draws", "I", (.int (0 : Int32))), ("treetune/match/Standing", "moves", "J", (.long (0 : Int64))), ("treetune/match/Standing", "simulations", "J", (.long (0 : Int64))), ("treetune/match/Standing", "positions", "J", (.long (0 : Int64))), ("treetune/match/Standing", "decidingNanos", "J", (.long (0 : Int64)))]), (n106, "treetune/match/Standing", [("treetune/match/Standing", "unitsPerPoint", "J", (.long (c107.toInt64))), ("treetune/match/Standing", "games", "I", (.int (0 : Int32))), ("treetune/match/Standing", "first", "I", (.int (0 : Int32))), ("treetune/match/Standing", "wins", "I", (.int (0 : Int32))), ("treetune/match/Standing", "units", "J", (.long (0 : Int64))), ("treetune/match/Standing", "squaredUnits", "J", (.long (0 : Int64))), ("treetune/match/Standing", "losses", "I", (.int (0 : Int32))), ("treetune/match/Standing", "draws", "I", (.int (0 : Int32))), ("treetune/match/Standing", "moves", "J", (.long (0 : Int64))), ("treetune/match/Standing", "simulations", "J", (.long (0 : Int64))), ("treetune/match/Standing", "positions", "J", (.long (0 : Int64))), ("treetune/match/Standing", "decidingNanos", "J", (.long (0 : Int64)))])], [])) (S' := [(.ref n109)]) rfl rfl ?_
              refine Run.astore K at_142 (pc' := 144) rfl rfl (L' := #[.val (.int p1), .val (.int p2), .val (.int p3), .val (.int p4), .val (.int p5), .val (.int ((1 : Int32) + (p1 &&& (3 : Int32)))), .val (.int j90), .val (.int j93), .val (.int j96), .val (.int j99), .val (.int j102), .val (.int j105), .val (.int ((1 : Int32) + ((p3 &&& (2147483647 : Int32)) % ((1 : Int32) + (p1 &&& (3 : Int32)))))), .val (.int ((1 : Int32) + ((p4 &&& (2147483647 : Int32)) % ((1 : Int32) + (p1 &&& (3 : Int32)))))), .val (.int ((1 : Int32) + ((p5 &&& (2147483647 : Int32)) % ((1 : Int32) + (p1 &&& (3 : Int32)))))), .val (.ref n106), .val (.ref n109), .unset, .unset, .unset, .unset]) rfl ?_
              refine Run.aload K at_144 (pc' := 146) rfl rfl rfl ?_
              refine Run.iload K at_146 (pc' := 148) rfl rfl ?_
              refine Run.iload K at_148 (pc' := 150) rfl rfl ?_
              refine Run.iload K at_150 (pc' := 152) rfl rfl ?_
              refine Run.bring 1 0 (D' := ([(n106, "treetune/match/Standing", [("treetune/match/Standing", "unitsPerPoint", "J", (.long (c107.toInt64))), ("treetune/match/Standing", "games", "I", (.int (0 : Int32))), ("treetune/match/Standing", "first", "I", (.int (0 : Int32))), ("treetune/match/Standing", "wins", "I", (.int (0 : Int32))), ("treetune/match/Standing", "units", "J", (.long (0 : Int64))), ("treetune/match/Standing", "squaredUnits", "J", (.long (0 : Int64))), ("treetune/match/Standing", "losses", "I", (.int (0 : Int32))), ("treetune/match/Standing", "draws", "I", (.int (0 : Int32))), ("treetune/match/Standing", "moves", "J", (.long (0 : Int64))), ("treetune/match/Standing", "simulations", "J", (.long (0 : Int64))), ("treetune/match/Standing", "positions", "J", (.long (0 : Int64))), ("treetune/match/Standing", "decidingNanos", "J", (.long (0 : Int64)))]), (n109, "treetune/match/Standing", [("treetune/match/Standing", "unitsPerPoint", "J", (.long (c110.toInt64))), ("treetune/match/Standing", "games", "I", (.int (0 : Int32))), ("treetune/match/Standing", "first", "I", (.int (0 : Int32))), ("treetune/match/Standing", "wins", "I", (.int (0 : Int32))), ("treetune/match/Standing", "units", "J", (.long (0 : Int64))), ("treetune/match/Standing", "squaredUnits", "J", (.long (0 : Int64))), ("treetune/match/Standing", "losses", "I", (.int (0 : Int32))), ("treetune/match/Standing", "draws", "I", (.int (0 : Int32))), ("treetune/match/Standing", "moves", "J", (.long (0 : Int64))), ("treetune/match/Standing", "simulations", "J", (.long (0 : Int64))), ("treetune/match/Standing", "positions", "J", (.long (0 : Int64))), ("treetune/match/Standing", "decidingNanos", "J", (.long (0 : Int64)))])], [])) rfl ?_
              refine Run.callV K at_152 (pc' := 155) rfl (a := n106) (z := (⟨"treetune/match/Standing", "record", "(ZIZ)V"⟩ : MethodName)) (Cn := "treetune/match/Standing") (i := 0) (hw _ (List.mem_of_getElem? (i := 16) rfl)) (hw _ (List.mem_of_getElem? (i := 17) rfl)) (hw _ (List.mem_of_getElem? (i := 19) rfl)) (hw _ (List.mem_of_getElem? (i := 18) rfl)) (hw _ (List.mem_of_getElem? (i := 3) rfl)) (hw _ (List.mem_of_getElem? (i := 20) rfl)) (by decide) rfl (rm4 l Z a0 n0 hw [] (n106) (j90) (((1 : Int32) + ((p3 &&& (2147483647 : Int32)) % ((1 : Int32) + (p1 &&& (3 : Int32)))))) (j93) ((c107.toInt64)) ((0 : Int32)) ((0 : Int32)) ((0 : Int32)) ((0 : Int64)) ((0 : Int64)) ((0 : Int32)) ((0 : Int32)) ((0 : Int64)) ((0 : Int64)) ((0 : Int64)) ((0 : Int64)) ([(n109, "treetune/match/Standing", [("treetune/match/Standing", "unitsPerPoint", "J", (.long (c110.toInt64))), ("treetune/match/Standing", "games", "I", (.int (0 : Int32))), ("treetune/match/Standing", "first", "I", (.int (0 : Int32))), ("treetune/match/Standing", "wins", "I", (.int (0 : Int32))), ("treetune/match/Standing", "units", "J", (.long (0 : Int64))), ("treetune/match/Standing", "squaredUnits", "J", (.long (0 : Int64))), ("treetune/match/Standing", "losses", "I", (.int (0 : Int32))), ("treetune/match/Standing", "draws", "I", (.int (0 : Int32))), ("treetune/match/Standing", "moves", "J", (.long (0 : Int64))), ("treetune/match/Standing", "simulations", "J", (.long (0 : Int64))), ("treetune/match/Standing", "positions", "J", (.long (0 : Int64))), ("treetune/match/Standing", "decidingNanos", "J", (.long (0 : Int64)))])]) ([]) (own_ld _ p1)) (argsL := [(.int j90), (.int ((1 : Int32) + ((p3 &&& (2147483647 : Int32)) % ((1 : Int32) + (p1 &&& (3 : Int32)))))), (.int j93)]) (rest := []) rfl rfl pd_2 rfl (W := 0) rfl (by decide) (by decide) (cells' := 2) (slots' := 24) rfl rfl (by decide) (by decide) ?_
              intro vq Dq hq
              obtain ⟨c112, c113, c114, c115, c116, c117, hc118, rfl, rfl⟩ := hq
              refine Run.as2 (D' := ([(n106, "treetune/match/Standing", [("treetune/match/Standing", "unitsPerPoint", "J", (.long (c107.toInt64))), ("treetune/match/Standing", "games", "I", (.int ((0 : Int32) + (1 : Int32)))), ("treetune/match/Standing", "first", "I", (.int c112)), ("treetune/match/Standing", "wins", "I", (.int c113)), ("treetune/match/Standing", "units", "J", (.long c114)), ("treetune/match/Standing", "squaredUnits", "J", (.long c115)), ("treetune/match/Standing", "losses", "I", (.int c116)), ("treetune/match/Standing", "draws", "I", (.int c117)), ("treetune/match/Standing", "moves", "J", (.long (0 : Int64))), ("treetune/match/Standing", "simulations", "J", (.long (0 : Int64))), ("treetune/match/Standing", "positions", "J", (.long (0 : Int64))), ("treetune/match/Standing", "decidingNanos", "J", (.long (0 : Int64)))]), (n109, "treetune/match/Standing", [("treetune/match/Standing", "unitsPerPoint", "J", (.long (c110.toInt64))), ("treetune/match/Standing", "games", "I", (.int (0 : Int32))), ("treetune/match/Standing", "first", "I", (.int (0 : Int32))), ("treetune/match/Standing", "wins", "I", (.int (0 : Int32))), ("treetune/match/Standing", "units", "J", (.long (0 : Int64))), ("treetune/match/Standing", "squaredUnits", "J", (.long (0 : Int64))), ("treetune/match/Standing", "losses", "I", (.int (0 : Int32))), ("treetune/match/Standing", "draws", "I", (.int (0 : Int32))), ("treetune/match/Standing", "moves", "J", (.long (0 : Int64))), ("treetune/match/Standing", "simulations", "J", (.long (0 : Int64))), ("treetune/match/Standing", "positions", "J", (.long (0 : Int64))), ("treetune/match/Standing", "decidingNanos", "J", (.long (0 : Int64)))])], [])) (S' := []) rfl rfl ?_
              refine Run.aload K at_155 (pc' := 157) rfl rfl rfl ?_
              refine Run.iload K at_157 (pc' := 159) rfl rfl ?_
              refine Run.iload K at_159 (pc' := 161) rfl rfl ?_
              refine Run.iload K at_161 (pc' := 163) rfl rfl ?_
              refine Run.bring 1 0 (D' := ([(n109, "treetune/match/Standing", [("treetune/match/Standing", "unitsPerPoint", "J", (.long (c110.toInt64))), ("treetune/match/Standing", "games", "I", (.int (0 : Int32))), ("treetune/match/Standing", "first", "I", (.int (0 : Int32))), ("treetune/match/Standing", "wins", "I", (.int (0 : Int32))), ("treetune/match/Standing", "units", "J", (.long (0 : Int64))), ("treetune/match/Standing", "squaredUnits", "J", (.long (0 : Int64))), ("treetune/match/Standing", "losses", "I", (.int (0 : Int32))), ("treetune/match/Standing", "draws", "I", (.int (0 : Int32))), ("treetune/match/Standing", "moves", "J", (.long (0 : Int64))), ("treetune/match/Standing", "simulations", "J", (.long (0 : Int64))), ("treetune/match/Standing", "positions", "J", (.long (0 : Int64))), ("treetune/match/Standing", "decidingNanos", "J", (.long (0 : Int64)))]), (n106, "treetune/match/Standing", [("treetune/match/Standing", "unitsPerPoint", "J", (.long (c107.toInt64))), ("treetune/match/Standing", "games", "I", (.int ((0 : Int32) + (1 : Int32)))), ("treetune/match/Standing", "first", "I", (.int c112)), ("treetune/match/Standing", "wins", "I", (.int c113)), ("treetune/match/Standing", "units", "J", (.long c114)), ("treetune/match/Standing", "squaredUnits", "J", (.long c115)), ("treetune/match/Standing", "losses", "I", (.int c116)), ("treetune/match/Standing", "draws", "I", (.int c117)), ("treetune/match/Standing", "moves", "J", (.long (0 : Int64))), ("treetune/match/Standing", "simulations", "J", (.long (0 : Int64))), ("treetune/match/Standing", "positions", "J", (.long (0 : Int64))), ("treetune/match/Standing", "decidingNanos", "J", (.long (0 : Int64)))])], [])) rfl ?_
              refine Run.callV K at_163 (pc' := 166) rfl (a := n109) (z := (⟨"treetune/match/Standing", "record", "(ZIZ)V"⟩ : MethodName)) (Cn := "treetune/match/Standing") (i := 0) (hw _ (List.mem_of_getElem? (i := 16) rfl)) (hw _ (List.mem_of_getElem? (i := 17) rfl)) (hw _ (List.mem_of_getElem? (i := 19) rfl)) (hw _ (List.mem_of_getElem? (i := 18) rfl)) (hw _ (List.mem_of_getElem? (i := 3) rfl)) (hw _ (List.mem_of_getElem? (i := 20) rfl)) (by decide) rfl (rm4 l Z a0 n0 hw [] (n109) (j96) (((1 : Int32) + ((p4 &&& (2147483647 : Int32)) % ((1 : Int32) + (p1 &&& (3 : Int32)))))) (j99) ((c110.toInt64)) ((0 : Int32)) ((0 : Int32)) ((0 : Int32)) ((0 : Int64)) ((0 : Int64)) ((0 : Int32)) ((0 : Int32)) ((0 : Int64)) ((0 : Int64)) ((0 : Int64)) ((0 : Int64)) ([(n106, "treetune/match/Standing", [("treetune/match/Standing", "unitsPerPoint", "J", (.long (c107.toInt64))), ("treetune/match/Standing", "games", "I", (.int ((0 : Int32) + (1 : Int32)))), ("treetune/match/Standing", "first", "I", (.int c112)), ("treetune/match/Standing", "wins", "I", (.int c113)), ("treetune/match/Standing", "units", "J", (.long c114)), ("treetune/match/Standing", "squaredUnits", "J", (.long c115)), ("treetune/match/Standing", "losses", "I", (.int c116)), ("treetune/match/Standing", "draws", "I", (.int c117)), ("treetune/match/Standing", "moves", "J", (.long (0 : Int64))), ("treetune/match/Standing", "simulations", "J", (.long (0 : Int64))), ("treetune/match/Standing", "positions", "J", (.long (0 : Int64))), ("treetune/match/Standing", "decidingNanos", "J", (.long (0 : Int64)))])]) ([]) (own_ld _ p1)) (argsL := [(.int j96), (.int ((1 : Int32) + ((p4 &&& (2147483647 : Int32)) % ((1 : Int32) + (p1 &&& (3 : Int32)))))), (.int j99)]) (rest := []) rfl rfl pd_2 rfl (W := 0) rfl (by decide) (by decide) (cells' := 2) (slots' := 24) rfl rfl (by decide) (by decide) ?_
              intro vq Dq hq
              obtain ⟨c119, c120, c121, c122, c123, c124, hc125, rfl, rfl⟩ := hq
              refine Run.as2 (D' := ([(n109, "treetune/match/Standing", [("treetune/match/Standing", "unitsPerPoint", "J", (.long (c110.toInt64))), ("treetune/match/Standing", "games", "I", (.int ((0 : Int32) + (1 : Int32)))), ("treetune/match/Standing", "first", "I", (.int c119)), ("treetune/match/Standing", "wins", "I", (.int c120)), ("treetune/match/Standing", "units", "J", (.long c121)), ("treetune/match/Standing", "squaredUnits", "J", (.long c122)), ("treetune/match/Standing", "losses", "I", (.int c123)), ("treetune/match/Standing", "draws", "I", (.int c124)), ("treetune/match/Standing", "moves", "J", (.long (0 : Int64))), ("treetune/match/Standing", "simulations", "J", (.long (0 : Int64))), ("treetune/match/Standing", "positions", "J", (.long (0 : Int64))), ("treetune/match/Standing", "decidingNanos", "J", (.long (0 : Int64)))]), (n106, "treetune/match/Standing", [("treetune/match/Standing", "unitsPerPoint", "J", (.long (c107.toInt64))), ("treetune/match/Standing", "games", "I", (.int ((0 : Int32) + (1 : Int32)))), ("treetune/match/Standing", "first", "I", (.int c112)), ("treetune/match/Standing", "wins", "I", (.int c113)), ("treetune/match/Standing", "units", "J", (.long c114)), ("treetune/match/Standing", "squaredUnits", "J", (.long c115)), ("treetune/match/Standing", "losses", "I", (.int c116)), ("treetune/match/Standing", "draws", "I", (.int c117)), ("treetune/match/Standing", "moves", "J", (.long (0 : Int64))), ("treetune/match/Standing", "simulations", "J", (.long (0 : Int64))), ("treetune/match/Standing", "positions", "J", (.long (0 : Int64))), ("treetune/match/Standing", "decidingNanos", "J", (.long (0 : Int64)))])], [])) (S' := []) rfl rfl ?_
              refine Run.aload K at_166 (pc' := 168) rfl rfl rfl ?_
              refine Run.iload K at_168 (pc' := 170) rfl rfl ?_
              refine Run.iload K at_170 (pc' := 172) rfl rfl ?_
              refine Run.iload K at_172 (pc' := 174) rfl rfl ?_
              refine Run.callV K at_174 (pc' := 177) rfl (a := n109) (z := (⟨"treetune/match/Standing", "record", "(ZIZ)V"⟩ : MethodName)) (Cn := "treetune/match/Standing") (i := 0) (hw _ (List.mem_of_getElem? (i := 16) rfl)) (hw _ (List.mem_of_getElem? (i := 17) rfl)) (hw _ (List.mem_of_getElem? (i := 19) rfl)) (hw _ (List.mem_of_getElem? (i := 18) rfl)) (hw _ (List.mem_of_getElem? (i := 3) rfl)) (hw _ (List.mem_of_getElem? (i := 20) rfl)) (by decide) rfl (rm4 l Z a0 n0 hw [] (n109) (j102) (((1 : Int32) + ((p5 &&& (2147483647 : Int32)) % ((1 : Int32) + (p1 &&& (3 : Int32)))))) (j105) ((c110.toInt64)) (((0 : Int32) + (1 : Int32))) (c119) (c120) (c121) (c122) (c123) (c124) ((0 : Int64)) ((0 : Int64)) ((0 : Int64)) ((0 : Int64)) ([(n106, "treetune/match/Standing", [("treetune/match/Standing", "unitsPerPoint", "J", (.long (c107.toInt64))), ("treetune/match/Standing", "games", "I", (.int ((0 : Int32) + (1 : Int32)))), ("treetune/match/Standing", "first", "I", (.int c112)), ("treetune/match/Standing", "wins", "I", (.int c113)), ("treetune/match/Standing", "units", "J", (.long c114)), ("treetune/match/Standing", "squaredUnits", "J", (.long c115)), ("treetune/match/Standing", "losses", "I", (.int c116)), ("treetune/match/Standing", "draws", "I", (.int c117)), ("treetune/match/Standing", "moves", "J", (.long (0 : Int64))), ("treetune/match/Standing", "simulations", "J", (.long (0 : Int64))), ("treetune/match/Standing", "positions", "J", (.long (0 : Int64))), ("treetune/match/Standing", "decidingNanos", "J", (.long (0 : Int64)))])]) ([]) (own_ld _ p1)) (argsL := [(.int j102), (.int ((1 : Int32) + ((p5 &&& (2147483647 : Int32)) % ((1 : Int32) + (p1 &&& (3 : Int32)))))), (.int j105)]) (rest := []) rfl rfl pd_2 rfl (W := 0) rfl (by decide) (by decide) (cells' := 2) (slots' := 24) rfl rfl (by decide) (by decide) ?_
              intro vq Dq hq
              obtain ⟨c126, c127, c128, c129, c130, c131, hc132, rfl, rfl⟩ := hq
              refine Run.as2 (D' := ([(n109, "treetune/match/Standing", [("treetune/match/Standing", "unitsPerPoint", "J", (.long (c110.toInt64))), ("treetune/match/Standing", "games", "I", (.int (((0 : Int32) + (1 : Int32)) + (1 : Int32)))), ("treetune/match/Standing", "first", "I", (.int c126)), ("treetune/match/Standing", "wins", "I", (.int c127)), ("treetune/match/Standing", "units", "J", (.long c128)), ("treetune/match/Standing", "squaredUnits", "J", (.long c129)), ("treetune/match/Standing", "losses", "I", (.int c130)), ("treetune/match/Standing", "draws", "I", (.int c131)), ("treetune/match/Standing", "moves", "J", (.long (0 : Int64))), ("treetune/match/Standing", "simulations", "J", (.long (0 : Int64))), ("treetune/match/Standing", "positions", "J", (.long (0 : Int64))), ("treetune/match/Standing", "decidingNanos", "J", (.long (0 : Int64)))]), (n106, "treetune/match/Standing", [("treetune/match/Standing", "unitsPerPoint", "J", (.long (c107.toInt64))), ("treetune/match/Standing", "games", "I", (.int ((0 : Int32) + (1 : Int32)))), ("treetune/match/Standing", "first", "I", (.int c112)), ("treetune/match/Standing", "wins", "I", (.int c113)), ("treetune/match/Standing", "units", "J", (.long c114)), ("treetune/match/Standing", "squaredUnits", "J", (.long c115)), ("treetune/match/Standing", "losses", "I", (.int c116)), ("treetune/match/Standing", "draws", "I", (.int c117)), ("treetune/match/Standing", "moves", "J", (.long (0 : Int64))), ("treetune/match/Standing", "simulations", "J", (.long (0 : Int64))), ("treetune/match/Standing", "positions", "J", (.long (0 : Int64))), ("treetune/match/Standing", "decidingNanos", "J", (.long (0 : Int64)))])], [])) (S' := []) rfl rfl ?_
              refine Run.aload K at_177 (pc' := 179) rfl rfl rfl ?_
              refine Run.aload K at_179 (pc' := 181) rfl rfl rfl ?_
              refine Run.bring 1 0 (D' := ([(n106, "treetune/match/Standing", [("treetune/match/Standing", "unitsPerPoint", "J", (.long (c107.toInt64))), ("treetune/match/Standing", "games", "I", (.int ((0 : Int32) + (1 : Int32)))), ("treetune/match/Standing", "first", "I", (.int c112)), ("treetune/match/Standing", "wins", "I", (.int c113)), ("treetune/match/Standing", "units", "J", (.long c114)), ("treetune/match/Standing", "squaredUnits", "J", (.long c115)), ("treetune/match/Standing", "losses", "I", (.int c116)), ("treetune/match/Standing", "draws", "I", (.int c117)), ("treetune/match/Standing", "moves", "J", (.long (0 : Int64))), ("treetune/match/Standing", "simulations", "J", (.long (0 : Int64))), ("treetune/match/Standing", "positions", "J", (.long (0 : Int64))), ("treetune/match/Standing", "decidingNanos", "J", (.long (0 : Int64)))]), (n109, "treetune/match/Standing", [("treetune/match/Standing", "unitsPerPoint", "J", (.long (c110.toInt64))), ("treetune/match/Standing", "games", "I", (.int (((0 : Int32) + (1 : Int32)) + (1 : Int32)))), ("treetune/match/Standing", "first", "I", (.int c126)), ("treetune/match/Standing", "wins", "I", (.int c127)), ("treetune/match/Standing", "units", "J", (.long c128)), ("treetune/match/Standing", "squaredUnits", "J", (.long c129)), ("treetune/match/Standing", "losses", "I", (.int c130)), ("treetune/match/Standing", "draws", "I", (.int c131)), ("treetune/match/Standing", "moves", "J", (.long (0 : Int64))), ("treetune/match/Standing", "simulations", "J", (.long (0 : Int64))), ("treetune/match/Standing", "positions", "J", (.long (0 : Int64))), ("treetune/match/Standing", "decidingNanos", "J", (.long (0 : Int64)))])], [])) rfl ?_
              refine Run.callV K at_181 (pc' := 184) rfl (a := n106) (z := (⟨"treetune/match/Standing", "add", "(Ltreetune/match/Standing;)V"⟩ : MethodName)) (Cn := "treetune/match/Standing") (i := 0) (hw _ (List.mem_of_getElem? (i := 33) rfl)) (hw _ (List.mem_of_getElem? (i := 34) rfl)) (hw _ (List.mem_of_getElem? (i := 36) rfl)) (hw _ (List.mem_of_getElem? (i := 35) rfl)) (hw _ (List.mem_of_getElem? (i := 3) rfl)) (hw _ (List.mem_of_getElem? (i := 37) rfl)) (by decide) rfl (rm5 l Z a0 n0 hw [] (n106) (n109) ((c107.toInt64)) (((0 : Int32) + (1 : Int32))) (c112) (c113) (c114) (c115) (c116) (c117) ((0 : Int64)) ((0 : Int64)) ((0 : Int64)) ((0 : Int64)) ((c110.toInt64)) ((((0 : Int32) + (1 : Int32)) + (1 : Int32))) (c126) (c127) (c128) (c129) (c130) (c131) ((0 : Int64)) ((0 : Int64)) ((0 : Int64)) ((0 : Int64)) ([]) ([]) ) (argsL := [(.ref n109)]) (rest := []) rfl rfl pd_3 rfl (W := 0) rfl (by decide) (by decide) (cells' := 2) (slots' := 24) rfl rfl (by decide) (by decide) (Ret.k (S' := []) rfl ?_)
              refine Run.as (D' := ([(n106, "treetune/match/Standing", [("treetune/match/Standing", "unitsPerPoint", "J", (.long (c107.toInt64))), ("treetune/match/Standing", "games", "I", (.int (((0 : Int32) + (1 : Int32)) + (((0 : Int32) + (1 : Int32)) + (1 : Int32))))), ("treetune/match/Standing", "first", "I", (.int (c112 + c126))), ("treetune/match/Standing", "wins", "I", (.int (c113 + c127))), ("treetune/match/Standing", "units", "J", (.long (c114 + c128))), ("treetune/match/Standing", "squaredUnits", "J", (.long (c115 + c129))), ("treetune/match/Standing", "losses", "I", (.int (c116 + c130))), ("treetune/match/Standing", "draws", "I", (.int (c117 + c131))), ("treetune/match/Standing", "moves", "J", (.long ((0 : Int64) + (0 : Int64)))), ("treetune/match/Standing", "simulations", "J", (.long ((0 : Int64) + (0 : Int64)))), ("treetune/match/Standing", "positions", "J", (.long ((0 : Int64) + (0 : Int64)))), ("treetune/match/Standing", "decidingNanos", "J", (.long ((0 : Int64) + (0 : Int64))))]), (n109, "treetune/match/Standing", [("treetune/match/Standing", "unitsPerPoint", "J", (.long (c110.toInt64))), ("treetune/match/Standing", "games", "I", (.int (((0 : Int32) + (1 : Int32)) + (1 : Int32)))), ("treetune/match/Standing", "first", "I", (.int c126)), ("treetune/match/Standing", "wins", "I", (.int c127)), ("treetune/match/Standing", "units", "J", (.long c128)), ("treetune/match/Standing", "squaredUnits", "J", (.long c129)), ("treetune/match/Standing", "losses", "I", (.int c130)), ("treetune/match/Standing", "draws", "I", (.int c131)), ("treetune/match/Standing", "moves", "J", (.long (0 : Int64))), ("treetune/match/Standing", "simulations", "J", (.long (0 : Int64))), ("treetune/match/Standing", "positions", "J", (.long (0 : Int64))), ("treetune/match/Standing", "decidingNanos", "J", (.long (0 : Int64)))])], [])) rfl ?_
              refine Run.iload K at_184 (pc' := 186) rfl rfl ?_
              refine Run.iload K at_186 (pc' := 188) rfl rfl ?_
              refine Run.callS K at_188 (pc' := 191) rfl (hw _ (List.mem_of_getElem? (i := 48) rfl)) (hw _ (List.mem_of_getElem? (i := 49) rfl)) (hw _ (List.mem_of_getElem? (i := 50) rfl)) (hw _ (List.mem_of_getElem? (i := 51) rfl)) (by decide) (rm6 l Z a0 n0 hw [] (j90) (((1 : Int32) + ((p3 &&& (2147483647 : Int32)) % ((1 : Int32) + (p1 &&& (3 : Int32)))))) ([(n106, "treetune/match/Standing", [("treetune/match/Standing", "unitsPerPoint", "J", (.long (c107.toInt64))), ("treetune/match/Standing", "games", "I", (.int (((0 : Int32) + (1 : Int32)) + (((0 : Int32) + (1 : Int32)) + (1 : Int32))))), ("treetune/match/Standing", "first", "I", (.int (c112 + c126))), ("treetune/match/Standing", "wins", "I", (.int (c113 + c127))), ("treetune/match/Standing", "units", "J", (.long (c114 + c128))), ("treetune/match/Standing", "squaredUnits", "J", (.long (c115 + c129))), ("treetune/match/Standing", "losses", "I", (.int (c116 + c130))), ("treetune/match/Standing", "draws", "I", (.int (c117 + c131))), ("treetune/match/Standing", "moves", "J", (.long ((0 : Int64) + (0 : Int64)))), ("treetune/match/Standing", "simulations", "J", (.long ((0 : Int64) + (0 : Int64)))), ("treetune/match/Standing", "positions", "J", (.long ((0 : Int64) + (0 : Int64)))), ("treetune/match/Standing", "decidingNanos", "J", (.long ((0 : Int64) + (0 : Int64))))]), (n109, "treetune/match/Standing", [("treetune/match/Standing", "unitsPerPoint", "J", (.long (c110.toInt64))), ("treetune/match/Standing", "games", "I", (.int (((0 : Int32) + (1 : Int32)) + (1 : Int32)))), ("treetune/match/Standing", "first", "I", (.int c126)), ("treetune/match/Standing", "wins", "I", (.int c127)), ("treetune/match/Standing", "units", "J", (.long c128)), ("treetune/match/Standing", "squaredUnits", "J", (.long c129)), ("treetune/match/Standing", "losses", "I", (.int c130)), ("treetune/match/Standing", "draws", "I", (.int c131)), ("treetune/match/Standing", "moves", "J", (.long (0 : Int64))), ("treetune/match/Standing", "simulations", "J", (.long (0 : Int64))), ("treetune/match/Standing", "positions", "J", (.long (0 : Int64))), ("treetune/match/Standing", "decidingNanos", "J", (.long (0 : Int64)))])]) ([]) ) (argsL := [(.int j90), (.int ((1 : Int32) + ((p3 &&& (2147483647 : Int32)) % ((1 : Int32) + (p1 &&& (3 : Int32))))))]) (rest := []) rfl rfl pd_4 rfl (W := 0) rfl (by decide) (by decide) (cells' := 2) (slots' := 24) rfl rfl (by decide) (by decide) ?_
              intro vq Dq hq
              obtain ⟨c133, hc134, rfl, rfl⟩ := hq
              refine Run.as2 (D' := ([(n106, "treetune/match/Standing", [("treetune/match/Standing", "unitsPerPoint", "J", (.long (c107.toInt64))), ("treetune/match/Standing", "games", "I", (.int (((0 : Int32) + (1 : Int32)) + (((0 : Int32) + (1 : Int32)) + (1 : Int32))))), ("treetune/match/Standing", "first", "I", (.int (c112 + c126))), ("treetune/match/Standing", "wins", "I", (.int (c113 + c127))), ("treetune/match/Standing", "units", "J", (.long (c114 + c128))), ("treetune/match/Standing", "squaredUnits", "J", (.long (c115 + c129))), ("treetune/match/Standing", "losses", "I", (.int (c116 + c130))), ("treetune/match/Standing", "draws", "I", (.int (c117 + c131))), ("treetune/match/Standing", "moves", "J", (.long ((0 : Int64) + (0 : Int64)))), ("treetune/match/Standing", "simulations", "J", (.long ((0 : Int64) + (0 : Int64)))), ("treetune/match/Standing", "positions", "J", (.long ((0 : Int64) + (0 : Int64)))), ("treetune/match/Standing", "decidingNanos", "J", (.long ((0 : Int64) + (0 : Int64))))]), (n109, "treetune/match/Standing", [("treetune/match/Standing", "unitsPerPoint", "J", (.long (c110.toInt64))), ("treetune/match/Standing", "games", "I", (.int (((0 : Int32) + (1 : Int32)) + (1 : Int32)))), ("treetune/match/Standing", "first", "I", (.int c126)), ("treetune/match/Standing", "wins", "I", (.int c127)), ("treetune/match/Standing", "units", "J", (.long c128)), ("treetune/match/Standing", "squaredUnits", "J", (.long c129)), ("treetune/match/Standing", "losses", "I", (.int c130)), ("treetune/match/Standing", "draws", "I", (.int c131)), ("treetune/match/Standing", "moves", "J", (.long (0 : Int64))), ("treetune/match/Standing", "simulations", "J", (.long (0 : Int64))), ("treetune/match/Standing", "positions", "J", (.long (0 : Int64))), ("treetune/match/Standing", "decidingNanos", "J", (.long (0 : Int64)))])], [])) (S' := [(.int c133)]) rfl rfl ?_
              refine Run.iload K at_191 (pc' := 193) rfl rfl ?_
              refine Run.iload K at_193 (pc' := 195) rfl rfl ?_
              refine Run.callS K at_195 (pc' := 198) rfl (hw _ (List.mem_of_getElem? (i := 48) rfl)) (hw _ (List.mem_of_getElem? (i := 49) rfl)) (hw _ (List.mem_of_getElem? (i := 50) rfl)) (hw _ (List.mem_of_getElem? (i := 51) rfl)) (by decide) (rm6 l Z a0 n0 hw [] (j96) (((1 : Int32) + ((p4 &&& (2147483647 : Int32)) % ((1 : Int32) + (p1 &&& (3 : Int32)))))) ([(n106, "treetune/match/Standing", [("treetune/match/Standing", "unitsPerPoint", "J", (.long (c107.toInt64))), ("treetune/match/Standing", "games", "I", (.int (((0 : Int32) + (1 : Int32)) + (((0 : Int32) + (1 : Int32)) + (1 : Int32))))), ("treetune/match/Standing", "first", "I", (.int (c112 + c126))), ("treetune/match/Standing", "wins", "I", (.int (c113 + c127))), ("treetune/match/Standing", "units", "J", (.long (c114 + c128))), ("treetune/match/Standing", "squaredUnits", "J", (.long (c115 + c129))), ("treetune/match/Standing", "losses", "I", (.int (c116 + c130))), ("treetune/match/Standing", "draws", "I", (.int (c117 + c131))), ("treetune/match/Standing", "moves", "J", (.long ((0 : Int64) + (0 : Int64)))), ("treetune/match/Standing", "simulations", "J", (.long ((0 : Int64) + (0 : Int64)))), ("treetune/match/Standing", "positions", "J", (.long ((0 : Int64) + (0 : Int64)))), ("treetune/match/Standing", "decidingNanos", "J", (.long ((0 : Int64) + (0 : Int64))))]), (n109, "treetune/match/Standing", [("treetune/match/Standing", "unitsPerPoint", "J", (.long (c110.toInt64))), ("treetune/match/Standing", "games", "I", (.int (((0 : Int32) + (1 : Int32)) + (1 : Int32)))), ("treetune/match/Standing", "first", "I", (.int c126)), ("treetune/match/Standing", "wins", "I", (.int c127)), ("treetune/match/Standing", "units", "J", (.long c128)), ("treetune/match/Standing", "squaredUnits", "J", (.long c129)), ("treetune/match/Standing", "losses", "I", (.int c130)), ("treetune/match/Standing", "draws", "I", (.int c131)), ("treetune/match/Standing", "moves", "J", (.long (0 : Int64))), ("treetune/match/Standing", "simulations", "J", (.long (0 : Int64))), ("treetune/match/Standing", "positions", "J", (.long (0 : Int64))), ("treetune/match/Standing", "decidingNanos", "J", (.long (0 : Int64)))])]) ([]) ) (argsL := [(.int j96), (.int ((1 : Int32) + ((p4 &&& (2147483647 : Int32)) % ((1 : Int32) + (p1 &&& (3 : Int32))))))]) (rest := [(.int c133)]) rfl rfl pd_4 rfl (W := 1) rfl (by decide) (by decide) (cells' := 2) (slots' := 24) rfl rfl (by decide) (by decide) ?_
              intro vq Dq hq
              obtain ⟨c135, hc136, rfl, rfl⟩ := hq
              refine Run.as2 (D' := ([(n106, "treetune/match/Standing", [("treetune/match/Standing", "unitsPerPoint", "J", (.long (c107.toInt64))), ("treetune/match/Standing", "games", "I", (.int (((0 : Int32) + (1 : Int32)) + (((0 : Int32) + (1 : Int32)) + (1 : Int32))))), ("treetune/match/Standing", "first", "I", (.int (c112 + c126))), ("treetune/match/Standing", "wins", "I", (.int (c113 + c127))), ("treetune/match/Standing", "units", "J", (.long (c114 + c128))), ("treetune/match/Standing", "squaredUnits", "J", (.long (c115 + c129))), ("treetune/match/Standing", "losses", "I", (.int (c116 + c130))), ("treetune/match/Standing", "draws", "I", (.int (c117 + c131))), ("treetune/match/Standing", "moves", "J", (.long ((0 : Int64) + (0 : Int64)))), ("treetune/match/Standing", "simulations", "J", (.long ((0 : Int64) + (0 : Int64)))), ("treetune/match/Standing", "positions", "J", (.long ((0 : Int64) + (0 : Int64)))), ("treetune/match/Standing", "decidingNanos", "J", (.long ((0 : Int64) + (0 : Int64))))]), (n109, "treetune/match/Standing", [("treetune/match/Standing", "unitsPerPoint", "J", (.long (c110.toInt64))), ("treetune/match/Standing", "games", "I", (.int (((0 : Int32) + (1 : Int32)) + (1 : Int32)))), ("treetune/match/Standing", "first", "I", (.int c126)), ("treetune/match/Standing", "wins", "I", (.int c127)), ("treetune/match/Standing", "units", "J", (.long c128)), ("treetune/match/Standing", "squaredUnits", "J", (.long c129)), ("treetune/match/Standing", "losses", "I", (.int c130)), ("treetune/match/Standing", "draws", "I", (.int c131)), ("treetune/match/Standing", "moves", "J", (.long (0 : Int64))), ("treetune/match/Standing", "simulations", "J", (.long (0 : Int64))), ("treetune/match/Standing", "positions", "J", (.long (0 : Int64))), ("treetune/match/Standing", "decidingNanos", "J", (.long (0 : Int64)))])], [])) (S' := [(.int c135), (.int c133)]) rfl rfl ?_
              refine Run.iadd K at_198 (pc' := 199) rfl ?_
              refine Run.iload K at_199 (pc' := 201) rfl rfl ?_
              refine Run.iload K at_201 (pc' := 203) rfl rfl ?_
              refine Run.callS K at_203 (pc' := 206) rfl (hw _ (List.mem_of_getElem? (i := 48) rfl)) (hw _ (List.mem_of_getElem? (i := 49) rfl)) (hw _ (List.mem_of_getElem? (i := 50) rfl)) (hw _ (List.mem_of_getElem? (i := 51) rfl)) (by decide) (rm6 l Z a0 n0 hw [] (j102) (((1 : Int32) + ((p5 &&& (2147483647 : Int32)) % ((1 : Int32) + (p1 &&& (3 : Int32)))))) ([(n106, "treetune/match/Standing", [("treetune/match/Standing", "unitsPerPoint", "J", (.long (c107.toInt64))), ("treetune/match/Standing", "games", "I", (.int (((0 : Int32) + (1 : Int32)) + (((0 : Int32) + (1 : Int32)) + (1 : Int32))))), ("treetune/match/Standing", "first", "I", (.int (c112 + c126))), ("treetune/match/Standing", "wins", "I", (.int (c113 + c127))), ("treetune/match/Standing", "units", "J", (.long (c114 + c128))), ("treetune/match/Standing", "squaredUnits", "J", (.long (c115 + c129))), ("treetune/match/Standing", "losses", "I", (.int (c116 + c130))), ("treetune/match/Standing", "draws", "I", (.int (c117 + c131))), ("treetune/match/Standing", "moves", "J", (.long ((0 : Int64) + (0 : Int64)))), ("treetune/match/Standing", "simulations", "J", (.long ((0 : Int64) + (0 : Int64)))), ("treetune/match/Standing", "positions", "J", (.long ((0 : Int64) + (0 : Int64)))), ("treetune/match/Standing", "decidingNanos", "J", (.long ((0 : Int64) + (0 : Int64))))]), (n109, "treetune/match/Standing", [("treetune/match/Standing", "unitsPerPoint", "J", (.long (c110.toInt64))), ("treetune/match/Standing", "games", "I", (.int (((0 : Int32) + (1 : Int32)) + (1 : Int32)))), ("treetune/match/Standing", "first", "I", (.int c126)), ("treetune/match/Standing", "wins", "I", (.int c127)), ("treetune/match/Standing", "units", "J", (.long c128)), ("treetune/match/Standing", "squaredUnits", "J", (.long c129)), ("treetune/match/Standing", "losses", "I", (.int c130)), ("treetune/match/Standing", "draws", "I", (.int c131)), ("treetune/match/Standing", "moves", "J", (.long (0 : Int64))), ("treetune/match/Standing", "simulations", "J", (.long (0 : Int64))), ("treetune/match/Standing", "positions", "J", (.long (0 : Int64))), ("treetune/match/Standing", "decidingNanos", "J", (.long (0 : Int64)))])]) ([]) ) (argsL := [(.int j102), (.int ((1 : Int32) + ((p5 &&& (2147483647 : Int32)) % ((1 : Int32) + (p1 &&& (3 : Int32))))))]) (rest := [(.int (c133 + c135))]) rfl rfl pd_4 rfl (W := 1) rfl (by decide) (by decide) (cells' := 2) (slots' := 24) rfl rfl (by decide) (by decide) ?_
              intro vq Dq hq
              obtain ⟨c137, hc138, rfl, rfl⟩ := hq
              refine Run.as2 (D' := ([(n106, "treetune/match/Standing", [("treetune/match/Standing", "unitsPerPoint", "J", (.long (c107.toInt64))), ("treetune/match/Standing", "games", "I", (.int (((0 : Int32) + (1 : Int32)) + (((0 : Int32) + (1 : Int32)) + (1 : Int32))))), ("treetune/match/Standing", "first", "I", (.int (c112 + c126))), ("treetune/match/Standing", "wins", "I", (.int (c113 + c127))), ("treetune/match/Standing", "units", "J", (.long (c114 + c128))), ("treetune/match/Standing", "squaredUnits", "J", (.long (c115 + c129))), ("treetune/match/Standing", "losses", "I", (.int (c116 + c130))), ("treetune/match/Standing", "draws", "I", (.int (c117 + c131))), ("treetune/match/Standing", "moves", "J", (.long ((0 : Int64) + (0 : Int64)))), ("treetune/match/Standing", "simulations", "J", (.long ((0 : Int64) + (0 : Int64)))), ("treetune/match/Standing", "positions", "J", (.long ((0 : Int64) + (0 : Int64)))), ("treetune/match/Standing", "decidingNanos", "J", (.long ((0 : Int64) + (0 : Int64))))]), (n109, "treetune/match/Standing", [("treetune/match/Standing", "unitsPerPoint", "J", (.long (c110.toInt64))), ("treetune/match/Standing", "games", "I", (.int (((0 : Int32) + (1 : Int32)) + (1 : Int32)))), ("treetune/match/Standing", "first", "I", (.int c126)), ("treetune/match/Standing", "wins", "I", (.int c127)), ("treetune/match/Standing", "units", "J", (.long c128)), ("treetune/match/Standing", "squaredUnits", "J", (.long c129)), ("treetune/match/Standing", "losses", "I", (.int c130)), ("treetune/match/Standing", "draws", "I", (.int c131)), ("treetune/match/Standing", "moves", "J", (.long (0 : Int64))), ("treetune/match/Standing", "simulations", "J", (.long (0 : Int64))), ("treetune/match/Standing", "positions", "J", (.long (0 : Int64))), ("treetune/match/Standing", "decidingNanos", "J", (.long (0 : Int64)))])], [])) (S' := [(.int c137), (.int (c133 + c135))]) rfl rfl ?_
              refine Run.iadd K at_206 (pc' := 207) rfl ?_
              refine Run.istore K at_207 (pc' := 209) rfl (L' := #[.val (.int p1), .val (.int p2), .val (.int p3), .val (.int p4), .val (.int p5), .val (.int ((1 : Int32) + (p1 &&& (3 : Int32)))), .val (.int j90), .val (.int j93), .val (.int j96), .val (.int j99), .val (.int j102), .val (.int j105), .val (.int ((1 : Int32) + ((p3 &&& (2147483647 : Int32)) % ((1 : Int32) + (p1 &&& (3 : Int32)))))), .val (.int ((1 : Int32) + ((p4 &&& (2147483647 : Int32)) % ((1 : Int32) + (p1 &&& (3 : Int32)))))), .val (.int ((1 : Int32) + ((p5 &&& (2147483647 : Int32)) % ((1 : Int32) + (p1 &&& (3 : Int32)))))), .val (.ref n106), .val (.ref n109), .val (.int ((c133 + c135) + c137)), .unset, .unset, .unset]) rfl ?_
              refine Run.iload K at_209 (pc' := 211) rfl rfl ?_
              refine Run.iload K at_211 (pc' := 213) rfl rfl ?_
              refine Run.callS K at_213 (pc' := 216) rfl (hw _ (List.mem_of_getElem? (i := 52) rfl)) (hw _ (List.mem_of_getElem? (i := 53) rfl)) (hw _ (List.mem_of_getElem? (i := 50) rfl)) (hw _ (List.mem_of_getElem? (i := 54) rfl)) (by decide) (rm7 l Z a0 n0 hw [] (j90) (((1 : Int32) + ((p3 &&& (2147483647 : Int32)) % ((1 : Int32) + (p1 &&& (3 : Int32)))))) ([(n106, "treetune/match/Standing", [("treetune/match/Standing", "unitsPerPoint", "J", (.long (c107.toInt64))), ("treetune/match/Standing", "games", "I", (.int (((0 : Int32) + (1 : Int32)) + (((0 : Int32) + (1 : Int32)) + (1 : Int32))))), ("treetune/match/Standing", "first", "I", (.int (c112 + c126))), ("treetune/match/Standing", "wins", "I", (.int (c113 + c127))), ("treetune/match/Standing", "units", "J", (.long (c114 + c128))), ("treetune/match/Standing", "squaredUnits", "J", (.long (c115 + c129))), ("treetune/match/Standing", "losses", "I", (.int (c116 + c130))), ("treetune/match/Standing", "draws", "I", (.int (c117 + c131))), ("treetune/match/Standing", "moves", "J", (.long ((0 : Int64) + (0 : Int64)))), ("treetune/match/Standing", "simulations", "J", (.long ((0 : Int64) + (0 : Int64)))), ("treetune/match/Standing", "positions", "J", (.long ((0 : Int64) + (0 : Int64)))), ("treetune/match/Standing", "decidingNanos", "J", (.long ((0 : Int64) + (0 : Int64))))]), (n109, "treetune/match/Standing", [("treetune/match/Standing", "unitsPerPoint", "J", (.long (c110.toInt64))), ("treetune/match/Standing", "games", "I", (.int (((0 : Int32) + (1 : Int32)) + (1 : Int32)))), ("treetune/match/Standing", "first", "I", (.int c126)), ("treetune/match/Standing", "wins", "I", (.int c127)), ("treetune/match/Standing", "units", "J", (.long c128)), ("treetune/match/Standing", "squaredUnits", "J", (.long c129)), ("treetune/match/Standing", "losses", "I", (.int c130)), ("treetune/match/Standing", "draws", "I", (.int c131)), ("treetune/match/Standing", "moves", "J", (.long (0 : Int64))), ("treetune/match/Standing", "simulations", "J", (.long (0 : Int64))), ("treetune/match/Standing", "positions", "J", (.long (0 : Int64))), ("treetune/match/Standing", "decidingNanos", "J", (.long (0 : Int64)))])]) ([]) ) (argsL := [(.int j90), (.int ((1 : Int32) + ((p3 &&& (2147483647 : Int32)) % ((1 : Int32) + (p1 &&& (3 : Int32))))))]) (rest := []) rfl rfl pd_4 rfl (W := 0) rfl (by decide) (by decide) (cells' := 2) (slots' := 24) rfl rfl (by decide) (by decide) ?_
              intro vq Dq hq
              obtain ⟨c139, hc140, rfl, rfl⟩ := hq
              refine Run.as2 (D' := ([(n106, "treetune/match/Standing", [("treetune/match/Standing", "unitsPerPoint", "J", (.long (c107.toInt64))), ("treetune/match/Standing", "games", "I", (.int (((0 : Int32) + (1 : Int32)) + (((0 : Int32) + (1 : Int32)) + (1 : Int32))))), ("treetune/match/Standing", "first", "I", (.int (c112 + c126))), ("treetune/match/Standing", "wins", "I", (.int (c113 + c127))), ("treetune/match/Standing", "units", "J", (.long (c114 + c128))), ("treetune/match/Standing", "squaredUnits", "J", (.long (c115 + c129))), ("treetune/match/Standing", "losses", "I", (.int (c116 + c130))), ("treetune/match/Standing", "draws", "I", (.int (c117 + c131))), ("treetune/match/Standing", "moves", "J", (.long ((0 : Int64) + (0 : Int64)))), ("treetune/match/Standing", "simulations", "J", (.long ((0 : Int64) + (0 : Int64)))), ("treetune/match/Standing", "positions", "J", (.long ((0 : Int64) + (0 : Int64)))), ("treetune/match/Standing", "decidingNanos", "J", (.long ((0 : Int64) + (0 : Int64))))]), (n109, "treetune/match/Standing", [("treetune/match/Standing", "unitsPerPoint", "J", (.long (c110.toInt64))), ("treetune/match/Standing", "games", "I", (.int (((0 : Int32) + (1 : Int32)) + (1 : Int32)))), ("treetune/match/Standing", "first", "I", (.int c126)), ("treetune/match/Standing", "wins", "I", (.int c127)), ("treetune/match/Standing", "units", "J", (.long c128)), ("treetune/match/Standing", "squaredUnits", "J", (.long c129)), ("treetune/match/Standing", "losses", "I", (.int c130)), ("treetune/match/Standing", "draws", "I", (.int c131)), ("treetune/match/Standing", "moves", "J", (.long (0 : Int64))), ("treetune/match/Standing", "simulations", "J", (.long (0 : Int64))), ("treetune/match/Standing", "positions", "J", (.long (0 : Int64))), ("treetune/match/Standing", "decidingNanos", "J", (.long (0 : Int64)))])], [])) (S' := [(.int c139)]) rfl rfl ?_
              refine Run.iload K at_216 (pc' := 218) rfl rfl ?_
              refine Run.iload K at_218 (pc' := 220) rfl rfl ?_
              refine Run.callS K at_220 (pc' := 223) rfl (hw _ (List.mem_of_getElem? (i := 52) rfl)) (hw _ (List.mem_of_getElem? (i := 53) rfl)) (hw _ (List.mem_of_getElem? (i := 50) rfl)) (hw _ (List.mem_of_getElem? (i := 54) rfl)) (by decide) (rm7 l Z a0 n0 hw [] (j96) (((1 : Int32) + ((p4 &&& (2147483647 : Int32)) % ((1 : Int32) + (p1 &&& (3 : Int32)))))) ([(n106, "treetune/match/Standing", [("treetune/match/Standing", "unitsPerPoint", "J", (.long (c107.toInt64))), ("treetune/match/Standing", "games", "I", (.int (((0 : Int32) + (1 : Int32)) + (((0 : Int32) + (1 : Int32)) + (1 : Int32))))), ("treetune/match/Standing", "first", "I", (.int (c112 + c126))), ("treetune/match/Standing", "wins", "I", (.int (c113 + c127))), ("treetune/match/Standing", "units", "J", (.long (c114 + c128))), ("treetune/match/Standing", "squaredUnits", "J", (.long (c115 + c129))), ("treetune/match/Standing", "losses", "I", (.int (c116 + c130))), ("treetune/match/Standing", "draws", "I", (.int (c117 + c131))), ("treetune/match/Standing", "moves", "J", (.long ((0 : Int64) + (0 : Int64)))), ("treetune/match/Standing", "simulations", "J", (.long ((0 : Int64) + (0 : Int64)))), ("treetune/match/Standing", "positions", "J", (.long ((0 : Int64) + (0 : Int64)))), ("treetune/match/Standing", "decidingNanos", "J", (.long ((0 : Int64) + (0 : Int64))))]), (n109, "treetune/match/Standing", [("treetune/match/Standing", "unitsPerPoint", "J", (.long (c110.toInt64))), ("treetune/match/Standing", "games", "I", (.int (((0 : Int32) + (1 : Int32)) + (1 : Int32)))), ("treetune/match/Standing", "first", "I", (.int c126)), ("treetune/match/Standing", "wins", "I", (.int c127)), ("treetune/match/Standing", "units", "J", (.long c128)), ("treetune/match/Standing", "squaredUnits", "J", (.long c129)), ("treetune/match/Standing", "losses", "I", (.int c130)), ("treetune/match/Standing", "draws", "I", (.int c131)), ("treetune/match/Standing", "moves", "J", (.long (0 : Int64))), ("treetune/match/Standing", "simulations", "J", (.long (0 : Int64))), ("treetune/match/Standing", "positions", "J", (.long (0 : Int64))), ("treetune/match/Standing", "decidingNanos", "J", (.long (0 : Int64)))])]) ([]) ) (argsL := [(.int j96), (.int ((1 : Int32) + ((p4 &&& (2147483647 : Int32)) % ((1 : Int32) + (p1 &&& (3 : Int32))))))]) (rest := [(.int c139)]) rfl rfl pd_4 rfl (W := 1) rfl (by decide) (by decide) (cells' := 2) (slots' := 24) rfl rfl (by decide) (by decide) ?_
              intro vq Dq hq
              obtain ⟨c141, hc142, rfl, rfl⟩ := hq
              refine Run.as2 (D' := ([(n106, "treetune/match/Standing", [("treetune/match/Standing", "unitsPerPoint", "J", (.long (c107.toInt64))), ("treetune/match/Standing", "games", "I", (.int (((0 : Int32) + (1 : Int32)) + (((0 : Int32) + (1 : Int32)) + (1 : Int32))))), ("treetune/match/Standing", "first", "I", (.int (c112 + c126))), ("treetune/match/Standing", "wins", "I", (.int (c113 + c127))), ("treetune/match/Standing", "units", "J", (.long (c114 + c128))), ("treetune/match/Standing", "squaredUnits", "J", (.long (c115 + c129))), ("treetune/match/Standing", "losses", "I", (.int (c116 + c130))), ("treetune/match/Standing", "draws", "I", (.int (c117 + c131))), ("treetune/match/Standing", "moves", "J", (.long ((0 : Int64) + (0 : Int64)))), ("treetune/match/Standing", "simulations", "J", (.long ((0 : Int64) + (0 : Int64)))), ("treetune/match/Standing", "positions", "J", (.long ((0 : Int64) + (0 : Int64)))), ("treetune/match/Standing", "decidingNanos", "J", (.long ((0 : Int64) + (0 : Int64))))]), (n109, "treetune/match/Standing", [("treetune/match/Standing", "unitsPerPoint", "J", (.long (c110.toInt64))), ("treetune/match/Standing", "games", "I", (.int (((0 : Int32) + (1 : Int32)) + (1 : Int32)))), ("treetune/match/Standing", "first", "I", (.int c126)), ("treetune/match/Standing", "wins", "I", (.int c127)), ("treetune/match/Standing", "units", "J", (.long c128)), ("treetune/match/Standing", "squaredUnits", "J", (.long c129)), ("treetune/match/Standing", "losses", "I", (.int c130)), ("treetune/match/Standing", "draws", "I", (.int c131)), ("treetune/match/Standing", "moves", "J", (.long (0 : Int64))), ("treetune/match/Standing", "simulations", "J", (.long (0 : Int64))), ("treetune/match/Standing", "positions", "J", (.long (0 : Int64))), ("treetune/match/Standing", "decidingNanos", "J", (.long (0 : Int64)))])], [])) (S' := [(.int c141), (.int c139)]) rfl rfl ?_
              refine Run.iadd K at_223 (pc' := 224) rfl ?_
              refine Run.iload K at_224 (pc' := 226) rfl rfl ?_
              refine Run.iload K at_226 (pc' := 228) rfl rfl ?_
              refine Run.callS K at_228 (pc' := 231) rfl (hw _ (List.mem_of_getElem? (i := 52) rfl)) (hw _ (List.mem_of_getElem? (i := 53) rfl)) (hw _ (List.mem_of_getElem? (i := 50) rfl)) (hw _ (List.mem_of_getElem? (i := 54) rfl)) (by decide) (rm7 l Z a0 n0 hw [] (j102) (((1 : Int32) + ((p5 &&& (2147483647 : Int32)) % ((1 : Int32) + (p1 &&& (3 : Int32)))))) ([(n106, "treetune/match/Standing", [("treetune/match/Standing", "unitsPerPoint", "J", (.long (c107.toInt64))), ("treetune/match/Standing", "games", "I", (.int (((0 : Int32) + (1 : Int32)) + (((0 : Int32) + (1 : Int32)) + (1 : Int32))))), ("treetune/match/Standing", "first", "I", (.int (c112 + c126))), ("treetune/match/Standing", "wins", "I", (.int (c113 + c127))), ("treetune/match/Standing", "units", "J", (.long (c114 + c128))), ("treetune/match/Standing", "squaredUnits", "J", (.long (c115 + c129))), ("treetune/match/Standing", "losses", "I", (.int (c116 + c130))), ("treetune/match/Standing", "draws", "I", (.int (c117 + c131))), ("treetune/match/Standing", "moves", "J", (.long ((0 : Int64) + (0 : Int64)))), ("treetune/match/Standing", "simulations", "J", (.long ((0 : Int64) + (0 : Int64)))), ("treetune/match/Standing", "positions", "J", (.long ((0 : Int64) + (0 : Int64)))), ("treetune/match/Standing", "decidingNanos", "J", (.long ((0 : Int64) + (0 : Int64))))]), (n109, "treetune/match/Standing", [("treetune/match/Standing", "unitsPerPoint", "J", (.long (c110.toInt64))), ("treetune/match/Standing", "games", "I", (.int (((0 : Int32) + (1 : Int32)) + (1 : Int32)))), ("treetune/match/Standing", "first", "I", (.int c126)), ("treetune/match/Standing", "wins", "I", (.int c127)), ("treetune/match/Standing", "units", "J", (.long c128)), ("treetune/match/Standing", "squaredUnits", "J", (.long c129)), ("treetune/match/Standing", "losses", "I", (.int c130)), ("treetune/match/Standing", "draws", "I", (.int c131)), ("treetune/match/Standing", "moves", "J", (.long (0 : Int64))), ("treetune/match/Standing", "simulations", "J", (.long (0 : Int64))), ("treetune/match/Standing", "positions", "J", (.long (0 : Int64))), ("treetune/match/Standing", "decidingNanos", "J", (.long (0 : Int64)))])]) ([]) ) (argsL := [(.int j102), (.int ((1 : Int32) + ((p5 &&& (2147483647 : Int32)) % ((1 : Int32) + (p1 &&& (3 : Int32))))))]) (rest := [(.int (c139 + c141))]) rfl rfl pd_4 rfl (W := 1) rfl (by decide) (by decide) (cells' := 2) (slots' := 24) rfl rfl (by decide) (by decide) ?_
              intro vq Dq hq
              obtain ⟨c143, hc144, rfl, rfl⟩ := hq
              refine Run.as2 (D' := ([(n106, "treetune/match/Standing", [("treetune/match/Standing", "unitsPerPoint", "J", (.long (c107.toInt64))), ("treetune/match/Standing", "games", "I", (.int (((0 : Int32) + (1 : Int32)) + (((0 : Int32) + (1 : Int32)) + (1 : Int32))))), ("treetune/match/Standing", "first", "I", (.int (c112 + c126))), ("treetune/match/Standing", "wins", "I", (.int (c113 + c127))), ("treetune/match/Standing", "units", "J", (.long (c114 + c128))), ("treetune/match/Standing", "squaredUnits", "J", (.long (c115 + c129))), ("treetune/match/Standing", "losses", "I", (.int (c116 + c130))), ("treetune/match/Standing", "draws", "I", (.int (c117 + c131))), ("treetune/match/Standing", "moves", "J", (.long ((0 : Int64) + (0 : Int64)))), ("treetune/match/Standing", "simulations", "J", (.long ((0 : Int64) + (0 : Int64)))), ("treetune/match/Standing", "positions", "J", (.long ((0 : Int64) + (0 : Int64)))), ("treetune/match/Standing", "decidingNanos", "J", (.long ((0 : Int64) + (0 : Int64))))]), (n109, "treetune/match/Standing", [("treetune/match/Standing", "unitsPerPoint", "J", (.long (c110.toInt64))), ("treetune/match/Standing", "games", "I", (.int (((0 : Int32) + (1 : Int32)) + (1 : Int32)))), ("treetune/match/Standing", "first", "I", (.int c126)), ("treetune/match/Standing", "wins", "I", (.int c127)), ("treetune/match/Standing", "units", "J", (.long c128)), ("treetune/match/Standing", "squaredUnits", "J", (.long c129)), ("treetune/match/Standing", "losses", "I", (.int c130)), ("treetune/match/Standing", "draws", "I", (.int c131)), ("treetune/match/Standing", "moves", "J", (.long (0 : Int64))), ("treetune/match/Standing", "simulations", "J", (.long (0 : Int64))), ("treetune/match/Standing", "positions", "J", (.long (0 : Int64))), ("treetune/match/Standing", "decidingNanos", "J", (.long (0 : Int64)))])], [])) (S' := [(.int c143), (.int (c139 + c141))]) rfl rfl ?_
              refine Run.iadd K at_231 (pc' := 232) rfl ?_
              refine Run.istore K at_232 (pc' := 234) rfl (L' := #[.val (.int p1), .val (.int p2), .val (.int p3), .val (.int p4), .val (.int p5), .val (.int ((1 : Int32) + (p1 &&& (3 : Int32)))), .val (.int j90), .val (.int j93), .val (.int j96), .val (.int j99), .val (.int j102), .val (.int j105), .val (.int ((1 : Int32) + ((p3 &&& (2147483647 : Int32)) % ((1 : Int32) + (p1 &&& (3 : Int32)))))), .val (.int ((1 : Int32) + ((p4 &&& (2147483647 : Int32)) % ((1 : Int32) + (p1 &&& (3 : Int32)))))), .val (.int ((1 : Int32) + ((p5 &&& (2147483647 : Int32)) % ((1 : Int32) + (p1 &&& (3 : Int32)))))), .val (.ref n106), .val (.ref n109), .val (.int ((c133 + c135) + c137)), .val (.int ((c139 + c141) + c143)), .unset, .unset]) rfl ?_
              refine Run.iload K at_234 (pc' := 236) rfl rfl ?_
              refine Run.callS K at_236 (pc' := 239) rfl (hw _ (List.mem_of_getElem? (i := 55) rfl)) (hw _ (List.mem_of_getElem? (i := 56) rfl)) (hw _ (List.mem_of_getElem? (i := 50) rfl)) (hw _ (List.mem_of_getElem? (i := 57) rfl)) (by decide) (rm8 l Z a0 n0 hw [] (j90) ([(n106, "treetune/match/Standing", [("treetune/match/Standing", "unitsPerPoint", "J", (.long (c107.toInt64))), ("treetune/match/Standing", "games", "I", (.int (((0 : Int32) + (1 : Int32)) + (((0 : Int32) + (1 : Int32)) + (1 : Int32))))), ("treetune/match/Standing", "first", "I", (.int (c112 + c126))), ("treetune/match/Standing", "wins", "I", (.int (c113 + c127))), ("treetune/match/Standing", "units", "J", (.long (c114 + c128))), ("treetune/match/Standing", "squaredUnits", "J", (.long (c115 + c129))), ("treetune/match/Standing", "losses", "I", (.int (c116 + c130))), ("treetune/match/Standing", "draws", "I", (.int (c117 + c131))), ("treetune/match/Standing", "moves", "J", (.long ((0 : Int64) + (0 : Int64)))), ("treetune/match/Standing", "simulations", "J", (.long ((0 : Int64) + (0 : Int64)))), ("treetune/match/Standing", "positions", "J", (.long ((0 : Int64) + (0 : Int64)))), ("treetune/match/Standing", "decidingNanos", "J", (.long ((0 : Int64) + (0 : Int64))))]), (n109, "treetune/match/Standing", [("treetune/match/Standing", "unitsPerPoint", "J", (.long (c110.toInt64))), ("treetune/match/Standing", "games", "I", (.int (((0 : Int32) + (1 : Int32)) + (1 : Int32)))), ("treetune/match/Standing", "first", "I", (.int c126)), ("treetune/match/Standing", "wins", "I", (.int c127)), ("treetune/match/Standing", "units", "J", (.long c128)), ("treetune/match/Standing", "squaredUnits", "J", (.long c129)), ("treetune/match/Standing", "losses", "I", (.int c130)), ("treetune/match/Standing", "draws", "I", (.int c131)), ("treetune/match/Standing", "moves", "J", (.long (0 : Int64))), ("treetune/match/Standing", "simulations", "J", (.long (0 : Int64))), ("treetune/match/Standing", "positions", "J", (.long (0 : Int64))), ("treetune/match/Standing", "decidingNanos", "J", (.long (0 : Int64)))])]) ([]) ) (argsL := [(.int j90)]) (rest := []) rfl rfl pd_5 rfl (W := 0) rfl (by decide) (by decide) (cells' := 2) (slots' := 24) rfl rfl (by decide) (by decide) ?_
              intro vq Dq hq
              obtain ⟨c145, hc146, rfl, rfl⟩ := hq
              refine Run.as2 (D' := ([(n106, "treetune/match/Standing", [("treetune/match/Standing", "unitsPerPoint", "J", (.long (c107.toInt64))), ("treetune/match/Standing", "games", "I", (.int (((0 : Int32) + (1 : Int32)) + (((0 : Int32) + (1 : Int32)) + (1 : Int32))))), ("treetune/match/Standing", "first", "I", (.int (c112 + c126))), ("treetune/match/Standing", "wins", "I", (.int (c113 + c127))), ("treetune/match/Standing", "units", "J", (.long (c114 + c128))), ("treetune/match/Standing", "squaredUnits", "J", (.long (c115 + c129))), ("treetune/match/Standing", "losses", "I", (.int (c116 + c130))), ("treetune/match/Standing", "draws", "I", (.int (c117 + c131))), ("treetune/match/Standing", "moves", "J", (.long ((0 : Int64) + (0 : Int64)))), ("treetune/match/Standing", "simulations", "J", (.long ((0 : Int64) + (0 : Int64)))), ("treetune/match/Standing", "positions", "J", (.long ((0 : Int64) + (0 : Int64)))), ("treetune/match/Standing", "decidingNanos", "J", (.long ((0 : Int64) + (0 : Int64))))]), (n109, "treetune/match/Standing", [("treetune/match/Standing", "unitsPerPoint", "J", (.long (c110.toInt64))), ("treetune/match/Standing", "games", "I", (.int (((0 : Int32) + (1 : Int32)) + (1 : Int32)))), ("treetune/match/Standing", "first", "I", (.int c126)), ("treetune/match/Standing", "wins", "I", (.int c127)), ("treetune/match/Standing", "units", "J", (.long c128)), ("treetune/match/Standing", "squaredUnits", "J", (.long c129)), ("treetune/match/Standing", "losses", "I", (.int c130)), ("treetune/match/Standing", "draws", "I", (.int c131)), ("treetune/match/Standing", "moves", "J", (.long (0 : Int64))), ("treetune/match/Standing", "simulations", "J", (.long (0 : Int64))), ("treetune/match/Standing", "positions", "J", (.long (0 : Int64))), ("treetune/match/Standing", "decidingNanos", "J", (.long (0 : Int64)))])], [])) (S' := [(.int c145)]) rfl rfl ?_
              refine Run.iload K at_239 (pc' := 241) rfl rfl ?_
              refine Run.callS K at_241 (pc' := 244) rfl (hw _ (List.mem_of_getElem? (i := 55) rfl)) (hw _ (List.mem_of_getElem? (i := 56) rfl)) (hw _ (List.mem_of_getElem? (i := 50) rfl)) (hw _ (List.mem_of_getElem? (i := 57) rfl)) (by decide) (rm8 l Z a0 n0 hw [] (j96) ([(n106, "treetune/match/Standing", [("treetune/match/Standing", "unitsPerPoint", "J", (.long (c107.toInt64))), ("treetune/match/Standing", "games", "I", (.int (((0 : Int32) + (1 : Int32)) + (((0 : Int32) + (1 : Int32)) + (1 : Int32))))), ("treetune/match/Standing", "first", "I", (.int (c112 + c126))), ("treetune/match/Standing", "wins", "I", (.int (c113 + c127))), ("treetune/match/Standing", "units", "J", (.long (c114 + c128))), ("treetune/match/Standing", "squaredUnits", "J", (.long (c115 + c129))), ("treetune/match/Standing", "losses", "I", (.int (c116 + c130))), ("treetune/match/Standing", "draws", "I", (.int (c117 + c131))), ("treetune/match/Standing", "moves", "J", (.long ((0 : Int64) + (0 : Int64)))), ("treetune/match/Standing", "simulations", "J", (.long ((0 : Int64) + (0 : Int64)))), ("treetune/match/Standing", "positions", "J", (.long ((0 : Int64) + (0 : Int64)))), ("treetune/match/Standing", "decidingNanos", "J", (.long ((0 : Int64) + (0 : Int64))))]), (n109, "treetune/match/Standing", [("treetune/match/Standing", "unitsPerPoint", "J", (.long (c110.toInt64))), ("treetune/match/Standing", "games", "I", (.int (((0 : Int32) + (1 : Int32)) + (1 : Int32)))), ("treetune/match/Standing", "first", "I", (.int c126)), ("treetune/match/Standing", "wins", "I", (.int c127)), ("treetune/match/Standing", "units", "J", (.long c128)), ("treetune/match/Standing", "squaredUnits", "J", (.long c129)), ("treetune/match/Standing", "losses", "I", (.int c130)), ("treetune/match/Standing", "draws", "I", (.int c131)), ("treetune/match/Standing", "moves", "J", (.long (0 : Int64))), ("treetune/match/Standing", "simulations", "J", (.long (0 : Int64))), ("treetune/match/Standing", "positions", "J", (.long (0 : Int64))), ("treetune/match/Standing", "decidingNanos", "J", (.long (0 : Int64)))])]) ([]) ) (argsL := [(.int j96)]) (rest := [(.int c145)]) rfl rfl pd_5 rfl (W := 1) rfl (by decide) (by decide) (cells' := 2) (slots' := 24) rfl rfl (by decide) (by decide) ?_
              intro vq Dq hq
              obtain ⟨c147, hc148, rfl, rfl⟩ := hq
              refine Run.as2 (D' := ([(n106, "treetune/match/Standing", [("treetune/match/Standing", "unitsPerPoint", "J", (.long (c107.toInt64))), ("treetune/match/Standing", "games", "I", (.int (((0 : Int32) + (1 : Int32)) + (((0 : Int32) + (1 : Int32)) + (1 : Int32))))), ("treetune/match/Standing", "first", "I", (.int (c112 + c126))), ("treetune/match/Standing", "wins", "I", (.int (c113 + c127))), ("treetune/match/Standing", "units", "J", (.long (c114 + c128))), ("treetune/match/Standing", "squaredUnits", "J", (.long (c115 + c129))), ("treetune/match/Standing", "losses", "I", (.int (c116 + c130))), ("treetune/match/Standing", "draws", "I", (.int (c117 + c131))), ("treetune/match/Standing", "moves", "J", (.long ((0 : Int64) + (0 : Int64)))), ("treetune/match/Standing", "simulations", "J", (.long ((0 : Int64) + (0 : Int64)))), ("treetune/match/Standing", "positions", "J", (.long ((0 : Int64) + (0 : Int64)))), ("treetune/match/Standing", "decidingNanos", "J", (.long ((0 : Int64) + (0 : Int64))))]), (n109, "treetune/match/Standing", [("treetune/match/Standing", "unitsPerPoint", "J", (.long (c110.toInt64))), ("treetune/match/Standing", "games", "I", (.int (((0 : Int32) + (1 : Int32)) + (1 : Int32)))), ("treetune/match/Standing", "first", "I", (.int c126)), ("treetune/match/Standing", "wins", "I", (.int c127)), ("treetune/match/Standing", "units", "J", (.long c128)), ("treetune/match/Standing", "squaredUnits", "J", (.long c129)), ("treetune/match/Standing", "losses", "I", (.int c130)), ("treetune/match/Standing", "draws", "I", (.int c131)), ("treetune/match/Standing", "moves", "J", (.long (0 : Int64))), ("treetune/match/Standing", "simulations", "J", (.long (0 : Int64))), ("treetune/match/Standing", "positions", "J", (.long (0 : Int64))), ("treetune/match/Standing", "decidingNanos", "J", (.long (0 : Int64)))])], [])) (S' := [(.int c147), (.int c145)]) rfl rfl ?_
              refine Run.iadd K at_244 (pc' := 245) rfl ?_
              refine Run.iload K at_245 (pc' := 247) rfl rfl ?_
              refine Run.callS K at_247 (pc' := 250) rfl (hw _ (List.mem_of_getElem? (i := 55) rfl)) (hw _ (List.mem_of_getElem? (i := 56) rfl)) (hw _ (List.mem_of_getElem? (i := 50) rfl)) (hw _ (List.mem_of_getElem? (i := 57) rfl)) (by decide) (rm8 l Z a0 n0 hw [] (j102) ([(n106, "treetune/match/Standing", [("treetune/match/Standing", "unitsPerPoint", "J", (.long (c107.toInt64))), ("treetune/match/Standing", "games", "I", (.int (((0 : Int32) + (1 : Int32)) + (((0 : Int32) + (1 : Int32)) + (1 : Int32))))), ("treetune/match/Standing", "first", "I", (.int (c112 + c126))), ("treetune/match/Standing", "wins", "I", (.int (c113 + c127))), ("treetune/match/Standing", "units", "J", (.long (c114 + c128))), ("treetune/match/Standing", "squaredUnits", "J", (.long (c115 + c129))), ("treetune/match/Standing", "losses", "I", (.int (c116 + c130))), ("treetune/match/Standing", "draws", "I", (.int (c117 + c131))), ("treetune/match/Standing", "moves", "J", (.long ((0 : Int64) + (0 : Int64)))), ("treetune/match/Standing", "simulations", "J", (.long ((0 : Int64) + (0 : Int64)))), ("treetune/match/Standing", "positions", "J", (.long ((0 : Int64) + (0 : Int64)))), ("treetune/match/Standing", "decidingNanos", "J", (.long ((0 : Int64) + (0 : Int64))))]), (n109, "treetune/match/Standing", [("treetune/match/Standing", "unitsPerPoint", "J", (.long (c110.toInt64))), ("treetune/match/Standing", "games", "I", (.int (((0 : Int32) + (1 : Int32)) + (1 : Int32)))), ("treetune/match/Standing", "first", "I", (.int c126)), ("treetune/match/Standing", "wins", "I", (.int c127)), ("treetune/match/Standing", "units", "J", (.long c128)), ("treetune/match/Standing", "squaredUnits", "J", (.long c129)), ("treetune/match/Standing", "losses", "I", (.int c130)), ("treetune/match/Standing", "draws", "I", (.int c131)), ("treetune/match/Standing", "moves", "J", (.long (0 : Int64))), ("treetune/match/Standing", "simulations", "J", (.long (0 : Int64))), ("treetune/match/Standing", "positions", "J", (.long (0 : Int64))), ("treetune/match/Standing", "decidingNanos", "J", (.long (0 : Int64)))])]) ([]) ) (argsL := [(.int j102)]) (rest := [(.int (c145 + c147))]) rfl rfl pd_5 rfl (W := 1) rfl (by decide) (by decide) (cells' := 2) (slots' := 24) rfl rfl (by decide) (by decide) ?_
              intro vq Dq hq
              obtain ⟨c149, hc150, rfl, rfl⟩ := hq
              refine Run.as2 (D' := ([(n106, "treetune/match/Standing", [("treetune/match/Standing", "unitsPerPoint", "J", (.long (c107.toInt64))), ("treetune/match/Standing", "games", "I", (.int (((0 : Int32) + (1 : Int32)) + (((0 : Int32) + (1 : Int32)) + (1 : Int32))))), ("treetune/match/Standing", "first", "I", (.int (c112 + c126))), ("treetune/match/Standing", "wins", "I", (.int (c113 + c127))), ("treetune/match/Standing", "units", "J", (.long (c114 + c128))), ("treetune/match/Standing", "squaredUnits", "J", (.long (c115 + c129))), ("treetune/match/Standing", "losses", "I", (.int (c116 + c130))), ("treetune/match/Standing", "draws", "I", (.int (c117 + c131))), ("treetune/match/Standing", "moves", "J", (.long ((0 : Int64) + (0 : Int64)))), ("treetune/match/Standing", "simulations", "J", (.long ((0 : Int64) + (0 : Int64)))), ("treetune/match/Standing", "positions", "J", (.long ((0 : Int64) + (0 : Int64)))), ("treetune/match/Standing", "decidingNanos", "J", (.long ((0 : Int64) + (0 : Int64))))]), (n109, "treetune/match/Standing", [("treetune/match/Standing", "unitsPerPoint", "J", (.long (c110.toInt64))), ("treetune/match/Standing", "games", "I", (.int (((0 : Int32) + (1 : Int32)) + (1 : Int32)))), ("treetune/match/Standing", "first", "I", (.int c126)), ("treetune/match/Standing", "wins", "I", (.int c127)), ("treetune/match/Standing", "units", "J", (.long c128)), ("treetune/match/Standing", "squaredUnits", "J", (.long c129)), ("treetune/match/Standing", "losses", "I", (.int c130)), ("treetune/match/Standing", "draws", "I", (.int c131)), ("treetune/match/Standing", "moves", "J", (.long (0 : Int64))), ("treetune/match/Standing", "simulations", "J", (.long (0 : Int64))), ("treetune/match/Standing", "positions", "J", (.long (0 : Int64))), ("treetune/match/Standing", "decidingNanos", "J", (.long (0 : Int64)))])], [])) (S' := [(.int c149), (.int (c145 + c147))]) rfl rfl ?_
              refine Run.iadd K at_250 (pc' := 251) rfl ?_
              refine Run.istore K at_251 (pc' := 253) rfl (L' := #[.val (.int p1), .val (.int p2), .val (.int p3), .val (.int p4), .val (.int p5), .val (.int ((1 : Int32) + (p1 &&& (3 : Int32)))), .val (.int j90), .val (.int j93), .val (.int j96), .val (.int j99), .val (.int j102), .val (.int j105), .val (.int ((1 : Int32) + ((p3 &&& (2147483647 : Int32)) % ((1 : Int32) + (p1 &&& (3 : Int32)))))), .val (.int ((1 : Int32) + ((p4 &&& (2147483647 : Int32)) % ((1 : Int32) + (p1 &&& (3 : Int32)))))), .val (.int ((1 : Int32) + ((p5 &&& (2147483647 : Int32)) % ((1 : Int32) + (p1 &&& (3 : Int32)))))), .val (.ref n106), .val (.ref n109), .val (.int ((c133 + c135) + c137)), .val (.int ((c139 + c141) + c143)), .val (.int ((c145 + c147) + c149)), .unset]) rfl ?_
              refine Run.iload K at_253 (pc' := 255) rfl rfl ?_
              refine Run.callS K at_255 (pc' := 258) rfl (hw _ (List.mem_of_getElem? (i := 58) rfl)) (hw _ (List.mem_of_getElem? (i := 59) rfl)) (hw _ (List.mem_of_getElem? (i := 50) rfl)) (hw _ (List.mem_of_getElem? (i := 60) rfl)) (by decide) (rm9 l Z a0 n0 hw [] (j93) ([(n106, "treetune/match/Standing", [("treetune/match/Standing", "unitsPerPoint", "J", (.long (c107.toInt64))), ("treetune/match/Standing", "games", "I", (.int (((0 : Int32) + (1 : Int32)) + (((0 : Int32) + (1 : Int32)) + (1 : Int32))))), ("treetune/match/Standing", "first", "I", (.int (c112 + c126))), ("treetune/match/Standing", "wins", "I", (.int (c113 + c127))), ("treetune/match/Standing", "units", "J", (.long (c114 + c128))), ("treetune/match/Standing", "squaredUnits", "J", (.long (c115 + c129))), ("treetune/match/Standing", "losses", "I", (.int (c116 + c130))), ("treetune/match/Standing", "draws", "I", (.int (c117 + c131))), ("treetune/match/Standing", "moves", "J", (.long ((0 : Int64) + (0 : Int64)))), ("treetune/match/Standing", "simulations", "J", (.long ((0 : Int64) + (0 : Int64)))), ("treetune/match/Standing", "positions", "J", (.long ((0 : Int64) + (0 : Int64)))), ("treetune/match/Standing", "decidingNanos", "J", (.long ((0 : Int64) + (0 : Int64))))]), (n109, "treetune/match/Standing", [("treetune/match/Standing", "unitsPerPoint", "J", (.long (c110.toInt64))), ("treetune/match/Standing", "games", "I", (.int (((0 : Int32) + (1 : Int32)) + (1 : Int32)))), ("treetune/match/Standing", "first", "I", (.int c126)), ("treetune/match/Standing", "wins", "I", (.int c127)), ("treetune/match/Standing", "units", "J", (.long c128)), ("treetune/match/Standing", "squaredUnits", "J", (.long c129)), ("treetune/match/Standing", "losses", "I", (.int c130)), ("treetune/match/Standing", "draws", "I", (.int c131)), ("treetune/match/Standing", "moves", "J", (.long (0 : Int64))), ("treetune/match/Standing", "simulations", "J", (.long (0 : Int64))), ("treetune/match/Standing", "positions", "J", (.long (0 : Int64))), ("treetune/match/Standing", "decidingNanos", "J", (.long (0 : Int64)))])]) ([]) ) (argsL := [(.int j93)]) (rest := []) rfl rfl pd_5 rfl (W := 0) rfl (by decide) (by decide) (cells' := 2) (slots' := 24) rfl rfl (by decide) (by decide) ?_
              intro vq Dq hq
              obtain ⟨c151, hc152, rfl, rfl⟩ := hq
              refine Run.as2 (D' := ([(n106, "treetune/match/Standing", [("treetune/match/Standing", "unitsPerPoint", "J", (.long (c107.toInt64))), ("treetune/match/Standing", "games", "I", (.int (((0 : Int32) + (1 : Int32)) + (((0 : Int32) + (1 : Int32)) + (1 : Int32))))), ("treetune/match/Standing", "first", "I", (.int (c112 + c126))), ("treetune/match/Standing", "wins", "I", (.int (c113 + c127))), ("treetune/match/Standing", "units", "J", (.long (c114 + c128))), ("treetune/match/Standing", "squaredUnits", "J", (.long (c115 + c129))), ("treetune/match/Standing", "losses", "I", (.int (c116 + c130))), ("treetune/match/Standing", "draws", "I", (.int (c117 + c131))), ("treetune/match/Standing", "moves", "J", (.long ((0 : Int64) + (0 : Int64)))), ("treetune/match/Standing", "simulations", "J", (.long ((0 : Int64) + (0 : Int64)))), ("treetune/match/Standing", "positions", "J", (.long ((0 : Int64) + (0 : Int64)))), ("treetune/match/Standing", "decidingNanos", "J", (.long ((0 : Int64) + (0 : Int64))))]), (n109, "treetune/match/Standing", [("treetune/match/Standing", "unitsPerPoint", "J", (.long (c110.toInt64))), ("treetune/match/Standing", "games", "I", (.int (((0 : Int32) + (1 : Int32)) + (1 : Int32)))), ("treetune/match/Standing", "first", "I", (.int c126)), ("treetune/match/Standing", "wins", "I", (.int c127)), ("treetune/match/Standing", "units", "J", (.long c128)), ("treetune/match/Standing", "squaredUnits", "J", (.long c129)), ("treetune/match/Standing", "losses", "I", (.int c130)), ("treetune/match/Standing", "draws", "I", (.int c131)), ("treetune/match/Standing", "moves", "J", (.long (0 : Int64))), ("treetune/match/Standing", "simulations", "J", (.long (0 : Int64))), ("treetune/match/Standing", "positions", "J", (.long (0 : Int64))), ("treetune/match/Standing", "decidingNanos", "J", (.long (0 : Int64)))])], [])) (S' := [(.int c151)]) rfl rfl ?_
              refine Run.iload K at_258 (pc' := 260) rfl rfl ?_
              refine Run.callS K at_260 (pc' := 263) rfl (hw _ (List.mem_of_getElem? (i := 58) rfl)) (hw _ (List.mem_of_getElem? (i := 59) rfl)) (hw _ (List.mem_of_getElem? (i := 50) rfl)) (hw _ (List.mem_of_getElem? (i := 60) rfl)) (by decide) (rm9 l Z a0 n0 hw [] (j99) ([(n106, "treetune/match/Standing", [("treetune/match/Standing", "unitsPerPoint", "J", (.long (c107.toInt64))), ("treetune/match/Standing", "games", "I", (.int (((0 : Int32) + (1 : Int32)) + (((0 : Int32) + (1 : Int32)) + (1 : Int32))))), ("treetune/match/Standing", "first", "I", (.int (c112 + c126))), ("treetune/match/Standing", "wins", "I", (.int (c113 + c127))), ("treetune/match/Standing", "units", "J", (.long (c114 + c128))), ("treetune/match/Standing", "squaredUnits", "J", (.long (c115 + c129))), ("treetune/match/Standing", "losses", "I", (.int (c116 + c130))), ("treetune/match/Standing", "draws", "I", (.int (c117 + c131))), ("treetune/match/Standing", "moves", "J", (.long ((0 : Int64) + (0 : Int64)))), ("treetune/match/Standing", "simulations", "J", (.long ((0 : Int64) + (0 : Int64)))), ("treetune/match/Standing", "positions", "J", (.long ((0 : Int64) + (0 : Int64)))), ("treetune/match/Standing", "decidingNanos", "J", (.long ((0 : Int64) + (0 : Int64))))]), (n109, "treetune/match/Standing", [("treetune/match/Standing", "unitsPerPoint", "J", (.long (c110.toInt64))), ("treetune/match/Standing", "games", "I", (.int (((0 : Int32) + (1 : Int32)) + (1 : Int32)))), ("treetune/match/Standing", "first", "I", (.int c126)), ("treetune/match/Standing", "wins", "I", (.int c127)), ("treetune/match/Standing", "units", "J", (.long c128)), ("treetune/match/Standing", "squaredUnits", "J", (.long c129)), ("treetune/match/Standing", "losses", "I", (.int c130)), ("treetune/match/Standing", "draws", "I", (.int c131)), ("treetune/match/Standing", "moves", "J", (.long (0 : Int64))), ("treetune/match/Standing", "simulations", "J", (.long (0 : Int64))), ("treetune/match/Standing", "positions", "J", (.long (0 : Int64))), ("treetune/match/Standing", "decidingNanos", "J", (.long (0 : Int64)))])]) ([]) ) (argsL := [(.int j99)]) (rest := [(.int c151)]) rfl rfl pd_5 rfl (W := 1) rfl (by decide) (by decide) (cells' := 2) (slots' := 24) rfl rfl (by decide) (by decide) ?_
              intro vq Dq hq
              obtain ⟨c153, hc154, rfl, rfl⟩ := hq
              refine Run.as2 (D' := ([(n106, "treetune/match/Standing", [("treetune/match/Standing", "unitsPerPoint", "J", (.long (c107.toInt64))), ("treetune/match/Standing", "games", "I", (.int (((0 : Int32) + (1 : Int32)) + (((0 : Int32) + (1 : Int32)) + (1 : Int32))))), ("treetune/match/Standing", "first", "I", (.int (c112 + c126))), ("treetune/match/Standing", "wins", "I", (.int (c113 + c127))), ("treetune/match/Standing", "units", "J", (.long (c114 + c128))), ("treetune/match/Standing", "squaredUnits", "J", (.long (c115 + c129))), ("treetune/match/Standing", "losses", "I", (.int (c116 + c130))), ("treetune/match/Standing", "draws", "I", (.int (c117 + c131))), ("treetune/match/Standing", "moves", "J", (.long ((0 : Int64) + (0 : Int64)))), ("treetune/match/Standing", "simulations", "J", (.long ((0 : Int64) + (0 : Int64)))), ("treetune/match/Standing", "positions", "J", (.long ((0 : Int64) + (0 : Int64)))), ("treetune/match/Standing", "decidingNanos", "J", (.long ((0 : Int64) + (0 : Int64))))]), (n109, "treetune/match/Standing", [("treetune/match/Standing", "unitsPerPoint", "J", (.long (c110.toInt64))), ("treetune/match/Standing", "games", "I", (.int (((0 : Int32) + (1 : Int32)) + (1 : Int32)))), ("treetune/match/Standing", "first", "I", (.int c126)), ("treetune/match/Standing", "wins", "I", (.int c127)), ("treetune/match/Standing", "units", "J", (.long c128)), ("treetune/match/Standing", "squaredUnits", "J", (.long c129)), ("treetune/match/Standing", "losses", "I", (.int c130)), ("treetune/match/Standing", "draws", "I", (.int c131)), ("treetune/match/Standing", "moves", "J", (.long (0 : Int64))), ("treetune/match/Standing", "simulations", "J", (.long (0 : Int64))), ("treetune/match/Standing", "positions", "J", (.long (0 : Int64))), ("treetune/match/Standing", "decidingNanos", "J", (.long (0 : Int64)))])], [])) (S' := [(.int c153), (.int c151)]) rfl rfl ?_
              refine Run.iadd K at_263 (pc' := 264) rfl ?_
              refine Run.iload K at_264 (pc' := 266) rfl rfl ?_
              refine Run.callS K at_266 (pc' := 269) rfl (hw _ (List.mem_of_getElem? (i := 58) rfl)) (hw _ (List.mem_of_getElem? (i := 59) rfl)) (hw _ (List.mem_of_getElem? (i := 50) rfl)) (hw _ (List.mem_of_getElem? (i := 60) rfl)) (by decide) (rm9 l Z a0 n0 hw [] (j105) ([(n106, "treetune/match/Standing", [("treetune/match/Standing", "unitsPerPoint", "J", (.long (c107.toInt64))), ("treetune/match/Standing", "games", "I", (.int (((0 : Int32) + (1 : Int32)) + (((0 : Int32) + (1 : Int32)) + (1 : Int32))))), ("treetune/match/Standing", "first", "I", (.int (c112 + c126))), ("treetune/match/Standing", "wins", "I", (.int (c113 + c127))), ("treetune/match/Standing", "units", "J", (.long (c114 + c128))), ("treetune/match/Standing", "squaredUnits", "J", (.long (c115 + c129))), ("treetune/match/Standing", "losses", "I", (.int (c116 + c130))), ("treetune/match/Standing", "draws", "I", (.int (c117 + c131))), ("treetune/match/Standing", "moves", "J", (.long ((0 : Int64) + (0 : Int64)))), ("treetune/match/Standing", "simulations", "J", (.long ((0 : Int64) + (0 : Int64)))), ("treetune/match/Standing", "positions", "J", (.long ((0 : Int64) + (0 : Int64)))), ("treetune/match/Standing", "decidingNanos", "J", (.long ((0 : Int64) + (0 : Int64))))]), (n109, "treetune/match/Standing", [("treetune/match/Standing", "unitsPerPoint", "J", (.long (c110.toInt64))), ("treetune/match/Standing", "games", "I", (.int (((0 : Int32) + (1 : Int32)) + (1 : Int32)))), ("treetune/match/Standing", "first", "I", (.int c126)), ("treetune/match/Standing", "wins", "I", (.int c127)), ("treetune/match/Standing", "units", "J", (.long c128)), ("treetune/match/Standing", "squaredUnits", "J", (.long c129)), ("treetune/match/Standing", "losses", "I", (.int c130)), ("treetune/match/Standing", "draws", "I", (.int c131)), ("treetune/match/Standing", "moves", "J", (.long (0 : Int64))), ("treetune/match/Standing", "simulations", "J", (.long (0 : Int64))), ("treetune/match/Standing", "positions", "J", (.long (0 : Int64))), ("treetune/match/Standing", "decidingNanos", "J", (.long (0 : Int64)))])]) ([]) ) (argsL := [(.int j105)]) (rest := [(.int (c151 + c153))]) rfl rfl pd_5 rfl (W := 1) rfl (by decide) (by decide) (cells' := 2) (slots' := 24) rfl rfl (by decide) (by decide) ?_
              intro vq Dq hq
              obtain ⟨c155, hc156, rfl, rfl⟩ := hq
              refine Run.as2 (D' := ([(n106, "treetune/match/Standing", [("treetune/match/Standing", "unitsPerPoint", "J", (.long (c107.toInt64))), ("treetune/match/Standing", "games", "I", (.int (((0 : Int32) + (1 : Int32)) + (((0 : Int32) + (1 : Int32)) + (1 : Int32))))), ("treetune/match/Standing", "first", "I", (.int (c112 + c126))), ("treetune/match/Standing", "wins", "I", (.int (c113 + c127))), ("treetune/match/Standing", "units", "J", (.long (c114 + c128))), ("treetune/match/Standing", "squaredUnits", "J", (.long (c115 + c129))), ("treetune/match/Standing", "losses", "I", (.int (c116 + c130))), ("treetune/match/Standing", "draws", "I", (.int (c117 + c131))), ("treetune/match/Standing", "moves", "J", (.long ((0 : Int64) + (0 : Int64)))), ("treetune/match/Standing", "simulations", "J", (.long ((0 : Int64) + (0 : Int64)))), ("treetune/match/Standing", "positions", "J", (.long ((0 : Int64) + (0 : Int64)))), ("treetune/match/Standing", "decidingNanos", "J", (.long ((0 : Int64) + (0 : Int64))))]), (n109, "treetune/match/Standing", [("treetune/match/Standing", "unitsPerPoint", "J", (.long (c110.toInt64))), ("treetune/match/Standing", "games", "I", (.int (((0 : Int32) + (1 : Int32)) + (1 : Int32)))), ("treetune/match/Standing", "first", "I", (.int c126)), ("treetune/match/Standing", "wins", "I", (.int c127)), ("treetune/match/Standing", "units", "J", (.long c128)), ("treetune/match/Standing", "squaredUnits", "J", (.long c129)), ("treetune/match/Standing", "losses", "I", (.int c130)), ("treetune/match/Standing", "draws", "I", (.int c131)), ("treetune/match/Standing", "moves", "J", (.long (0 : Int64))), ("treetune/match/Standing", "simulations", "J", (.long (0 : Int64))), ("treetune/match/Standing", "positions", "J", (.long (0 : Int64))), ("treetune/match/Standing", "decidingNanos", "J", (.long (0 : Int64)))])], [])) (S' := [(.int c155), (.int (c151 + c153))]) rfl rfl ?_
              refine Run.iadd K at_269 (pc' := 270) rfl ?_
              refine Run.istore K at_270 (pc' := 272) rfl (L' := #[.val (.int p1), .val (.int p2), .val (.int p3), .val (.int p4), .val (.int p5), .val (.int ((1 : Int32) + (p1 &&& (3 : Int32)))), .val (.int j90), .val (.int j93), .val (.int j96), .val (.int j99), .val (.int j102), .val (.int j105), .val (.int ((1 : Int32) + ((p3 &&& (2147483647 : Int32)) % ((1 : Int32) + (p1 &&& (3 : Int32)))))), .val (.int ((1 : Int32) + ((p4 &&& (2147483647 : Int32)) % ((1 : Int32) + (p1 &&& (3 : Int32)))))), .val (.int ((1 : Int32) + ((p5 &&& (2147483647 : Int32)) % ((1 : Int32) + (p1 &&& (3 : Int32)))))), .val (.ref n106), .val (.ref n109), .val (.int ((c133 + c135) + c137)), .val (.int ((c139 + c141) + c143)), .val (.int ((c145 + c147) + c149)), .val (.int ((c151 + c153) + c155))]) rfl ?_
              refine Run.aload K at_272 (pc' := 274) rfl rfl rfl ?_
              refine Run.callV K at_274 (pc' := 277) rfl (a := n106) (z := (⟨"treetune/match/Standing", "games", "()I"⟩ : MethodName)) (Cn := "treetune/match/Standing") (i := 0) (hw _ (List.mem_of_getElem? (i := 61) rfl)) (hw _ (List.mem_of_getElem? (i := 62) rfl)) (hw _ (List.mem_of_getElem? (i := 64) rfl)) (hw _ (List.mem_of_getElem? (i := 63) rfl)) (hw _ (List.mem_of_getElem? (i := 3) rfl)) (hw _ (List.mem_of_getElem? (i := 65) rfl)) (by decide) rfl (rm10 l Z a0 n0 hw [] (n106) ((c107.toInt64)) ((((0 : Int32) + (1 : Int32)) + (((0 : Int32) + (1 : Int32)) + (1 : Int32)))) ((c112 + c126)) ((c113 + c127)) ((c114 + c128)) ((c115 + c129)) ((c116 + c130)) ((c117 + c131)) (((0 : Int64) + (0 : Int64))) (((0 : Int64) + (0 : Int64))) (((0 : Int64) + (0 : Int64))) (((0 : Int64) + (0 : Int64))) ([(n109, "treetune/match/Standing", [("treetune/match/Standing", "unitsPerPoint", "J", (.long (c110.toInt64))), ("treetune/match/Standing", "games", "I", (.int (((0 : Int32) + (1 : Int32)) + (1 : Int32)))), ("treetune/match/Standing", "first", "I", (.int c126)), ("treetune/match/Standing", "wins", "I", (.int c127)), ("treetune/match/Standing", "units", "J", (.long c128)), ("treetune/match/Standing", "squaredUnits", "J", (.long c129)), ("treetune/match/Standing", "losses", "I", (.int c130)), ("treetune/match/Standing", "draws", "I", (.int c131)), ("treetune/match/Standing", "moves", "J", (.long (0 : Int64))), ("treetune/match/Standing", "simulations", "J", (.long (0 : Int64))), ("treetune/match/Standing", "positions", "J", (.long (0 : Int64))), ("treetune/match/Standing", "decidingNanos", "J", (.long (0 : Int64)))])]) ([]) ) (argsL := []) (rest := []) rfl rfl pd_6 rfl (W := 0) rfl (by decide) (by decide) (cells' := 2) (slots' := 24) rfl rfl (by decide) (by decide) (Ret.k (S' := [(.int (((0 : Int32) + (1 : Int32)) + (((0 : Int32) + (1 : Int32)) + (1 : Int32))))]) rfl ?_)
              refine Run.as (D' := ([(n106, "treetune/match/Standing", [("treetune/match/Standing", "unitsPerPoint", "J", (.long (c107.toInt64))), ("treetune/match/Standing", "games", "I", (.int (((0 : Int32) + (1 : Int32)) + (((0 : Int32) + (1 : Int32)) + (1 : Int32))))), ("treetune/match/Standing", "first", "I", (.int (c112 + c126))), ("treetune/match/Standing", "wins", "I", (.int (c113 + c127))), ("treetune/match/Standing", "units", "J", (.long (c114 + c128))), ("treetune/match/Standing", "squaredUnits", "J", (.long (c115 + c129))), ("treetune/match/Standing", "losses", "I", (.int (c116 + c130))), ("treetune/match/Standing", "draws", "I", (.int (c117 + c131))), ("treetune/match/Standing", "moves", "J", (.long ((0 : Int64) + (0 : Int64)))), ("treetune/match/Standing", "simulations", "J", (.long ((0 : Int64) + (0 : Int64)))), ("treetune/match/Standing", "positions", "J", (.long ((0 : Int64) + (0 : Int64)))), ("treetune/match/Standing", "decidingNanos", "J", (.long ((0 : Int64) + (0 : Int64))))]), (n109, "treetune/match/Standing", [("treetune/match/Standing", "unitsPerPoint", "J", (.long (c110.toInt64))), ("treetune/match/Standing", "games", "I", (.int (((0 : Int32) + (1 : Int32)) + (1 : Int32)))), ("treetune/match/Standing", "first", "I", (.int c126)), ("treetune/match/Standing", "wins", "I", (.int c127)), ("treetune/match/Standing", "units", "J", (.long c128)), ("treetune/match/Standing", "squaredUnits", "J", (.long c129)), ("treetune/match/Standing", "losses", "I", (.int c130)), ("treetune/match/Standing", "draws", "I", (.int c131)), ("treetune/match/Standing", "moves", "J", (.long (0 : Int64))), ("treetune/match/Standing", "simulations", "J", (.long (0 : Int64))), ("treetune/match/Standing", "positions", "J", (.long (0 : Int64))), ("treetune/match/Standing", "decidingNanos", "J", (.long (0 : Int64)))])], [])) rfl ?_
              refine Run.iconst K at_277 (pc' := 278) rfl (v := (3 : Int32)) rfl ?_
              refine Run.join1 (F := fun (j163 : Int32) => (((((0 : Int32) + (1 : Int32)) + (((0 : Int32) + (1 : Int32)) + (1 : Int32))) ≠ (3 : Int32)) ∧ j163 = (0 : Int32)) ∨ ((¬ ((((0 : Int32) + (1 : Int32)) + (((0 : Int32) + (1 : Int32)) + (1 : Int32))) ≠ (3 : Int32))) ∧ ((c113 + c127) ≠ ((c133 + c135) + c137)) ∧ j163 = (0 : Int32)) ∨ ((¬ ((((0 : Int32) + (1 : Int32)) + (((0 : Int32) + (1 : Int32)) + (1 : Int32))) ≠ (3 : Int32))) ∧ (¬ ((c113 + c127) ≠ ((c133 + c135) + c137))) ∧ ((c117 + c131) ≠ ((c139 + c141) + c143)) ∧ j163 = (0 : Int32)) ∨ ((¬ ((((0 : Int32) + (1 : Int32)) + (((0 : Int32) + (1 : Int32)) + (1 : Int32))) ≠ (3 : Int32))) ∧ (¬ ((c113 + c127) ≠ ((c133 + c135) + c137))) ∧ (¬ ((c117 + c131) ≠ ((c139 + c141) + c143))) ∧ ((c116 + c130) ≠ ((c145 + c147) + c149)) ∧ j163 = (0 : Int32)) ∨ ((¬ ((((0 : Int32) + (1 : Int32)) + (((0 : Int32) + (1 : Int32)) + (1 : Int32))) ≠ (3 : Int32))) ∧ (¬ ((c113 + c127) ≠ ((c133 + c135) + c137))) ∧ (¬ ((c117 + c131) ≠ ((c139 + c141) + c143))) ∧ (¬ ((c116 + c130) ≠ ((c145 + c147) + c149))) ∧ ((c112 + c126) ≠ ((c151 + c153) + c155)) ∧ j163 = (0 : Int32)) ∨ ((¬ ((((0 : Int32) + (1 : Int32)) + (((0 : Int32) + (1 : Int32)) + (1 : Int32))) ≠ (3 : Int32))) ∧ (¬ ((c113 + c127) ≠ ((c133 + c135) + c137))) ∧ (¬ ((c117 + c131) ≠ ((c139 + c141) + c143))) ∧ (¬ ((c116 + c130) ≠ ((c145 + c147) + c149))) ∧ (¬ ((c112 + c126) ≠ ((c151 + c153) + c155))) ∧ j163 = (1 : Int32))) (D' := fun (j163 : Int32) => ([(n106, "treetune/match/Standing", [("treetune/match/Standing", "unitsPerPoint", "J", (.long (c107.toInt64))), ("treetune/match/Standing", "games", "I", (.int (((0 : Int32) + (1 : Int32)) + (((0 : Int32) + (1 : Int32)) + (1 : Int32))))), ("treetune/match/Standing", "first", "I", (.int (c112 + c126))), ("treetune/match/Standing", "wins", "I", (.int (c113 + c127))), ("treetune/match/Standing", "units", "J", (.long (c114 + c128))), ("treetune/match/Standing", "squaredUnits", "J", (.long (c115 + c129))), ("treetune/match/Standing", "losses", "I", (.int (c116 + c130))), ("treetune/match/Standing", "draws", "I", (.int (c117 + c131))), ("treetune/match/Standing", "moves", "J", (.long ((0 : Int64) + (0 : Int64)))), ("treetune/match/Standing", "simulations", "J", (.long ((0 : Int64) + (0 : Int64)))), ("treetune/match/Standing", "positions", "J", (.long ((0 : Int64) + (0 : Int64)))), ("treetune/match/Standing", "decidingNanos", "J", (.long ((0 : Int64) + (0 : Int64))))]), (n109, "treetune/match/Standing", [("treetune/match/Standing", "unitsPerPoint", "J", (.long (c110.toInt64))), ("treetune/match/Standing", "games", "I", (.int (((0 : Int32) + (1 : Int32)) + (1 : Int32)))), ("treetune/match/Standing", "first", "I", (.int c126)), ("treetune/match/Standing", "wins", "I", (.int c127)), ("treetune/match/Standing", "units", "J", (.long c128)), ("treetune/match/Standing", "squaredUnits", "J", (.long c129)), ("treetune/match/Standing", "losses", "I", (.int c130)), ("treetune/match/Standing", "draws", "I", (.int c131)), ("treetune/match/Standing", "moves", "J", (.long (0 : Int64))), ("treetune/match/Standing", "simulations", "J", (.long (0 : Int64))), ("treetune/match/Standing", "positions", "J", (.long (0 : Int64))), ("treetune/match/Standing", "decidingNanos", "J", (.long (0 : Int64)))])], [])) (cells' := 2) (slots' := 24) (pc' := 326) (L' := fun (j163 : Int32) => #[.val (.int p1), .val (.int p2), .val (.int p3), .val (.int p4), .val (.int p5), .val (.int ((1 : Int32) + (p1 &&& (3 : Int32)))), .val (.int j90), .val (.int j93), .val (.int j96), .val (.int j99), .val (.int j102), .val (.int j105), .val (.int ((1 : Int32) + ((p3 &&& (2147483647 : Int32)) % ((1 : Int32) + (p1 &&& (3 : Int32)))))), .val (.int ((1 : Int32) + ((p4 &&& (2147483647 : Int32)) % ((1 : Int32) + (p1 &&& (3 : Int32)))))), .val (.int ((1 : Int32) + ((p5 &&& (2147483647 : Int32)) % ((1 : Int32) + (p1 &&& (3 : Int32)))))), .val (.ref n106), .val (.ref n109), .val (.int ((c133 + c135) + c137)), .val (.int ((c139 + c141) + c143)), .val (.int ((c145 + c147) + c149)), .val (.int ((c151 + c153) + c155))]) (S' := fun (j163 : Int32) => [(.int j163)]) ?_ (fun J278 => ?_)
              · intro j163 hjj163
                exact Run.retN K at_326 (w := (1 : Int32)) rfl (by decide) (by rw [own_final p1 p2 p3 p4 p5 j90 j93 j96 j99 j102 j105 c107 c110 c112 c113 c114 c115 c116 c117 c119 c120 c121 c122 c123 c124 c126 c127 c128 c129 c130 c131 c133 c135 c137 c139 c141 c143 c145 c147 c149 c151 c153 c155 j163 hjj90 hjj93 hjj96 hjj99 hjj102 hjj105 hc118 hc125 hc132 hc134 hc136 hc138 hc140 hc142 hc144 hc146 hc148 hc150 hc152 hc154 hc156 hjj163]; decide) (by decide) (by decide) rfl
              · skip
                refine Run.icmp K at_278 (pT := 325) (pF := 281) (by decide) (by decide) rfl (fun (h278_163 : (((0 : Int32) + (1 : Int32)) + (((0 : Int32) + (1 : Int32)) + (1 : Int32))) ≠ (3 : Int32)) => ?_) (fun (h278_163 : ¬ ((((0 : Int32) + (1 : Int32)) + (((0 : Int32) + (1 : Int32)) + (1 : Int32))) ≠ (3 : Int32))) => ?_)
                · skip
                  refine Run.iconst K at_325 (pc' := 326) rfl (v := (0 : Int32)) rfl ?_
                  exact J278 _ (Or.inl ⟨h278_163, rfl⟩)
                · skip
                  refine Run.aload K at_281 (pc' := 283) rfl rfl rfl ?_
                  refine Run.callV K at_283 (pc' := 286) rfl (a := n106) (z := (⟨"treetune/match/Standing", "wins", "()I"⟩ : MethodName)) (Cn := "treetune/match/Standing") (i := 0) (hw _ (List.mem_of_getElem? (i := 66) rfl)) (hw _ (List.mem_of_getElem? (i := 67) rfl)) (hw _ (List.mem_of_getElem? (i := 69) rfl)) (hw _ (List.mem_of_getElem? (i := 68) rfl)) (hw _ (List.mem_of_getElem? (i := 3) rfl)) (hw _ (List.mem_of_getElem? (i := 70) rfl)) (by decide) rfl (rm11 l Z a0 n0 hw [] (n106) ((c107.toInt64)) ((((0 : Int32) + (1 : Int32)) + (((0 : Int32) + (1 : Int32)) + (1 : Int32)))) ((c112 + c126)) ((c113 + c127)) ((c114 + c128)) ((c115 + c129)) ((c116 + c130)) ((c117 + c131)) (((0 : Int64) + (0 : Int64))) (((0 : Int64) + (0 : Int64))) (((0 : Int64) + (0 : Int64))) (((0 : Int64) + (0 : Int64))) ([(n109, "treetune/match/Standing", [("treetune/match/Standing", "unitsPerPoint", "J", (.long (c110.toInt64))), ("treetune/match/Standing", "games", "I", (.int (((0 : Int32) + (1 : Int32)) + (1 : Int32)))), ("treetune/match/Standing", "first", "I", (.int c126)), ("treetune/match/Standing", "wins", "I", (.int c127)), ("treetune/match/Standing", "units", "J", (.long c128)), ("treetune/match/Standing", "squaredUnits", "J", (.long c129)), ("treetune/match/Standing", "losses", "I", (.int c130)), ("treetune/match/Standing", "draws", "I", (.int c131)), ("treetune/match/Standing", "moves", "J", (.long (0 : Int64))), ("treetune/match/Standing", "simulations", "J", (.long (0 : Int64))), ("treetune/match/Standing", "positions", "J", (.long (0 : Int64))), ("treetune/match/Standing", "decidingNanos", "J", (.long (0 : Int64)))])]) ([]) ) (argsL := []) (rest := []) rfl rfl pd_6 rfl (W := 0) rfl (by decide) (by decide) (cells' := 2) (slots' := 24) rfl rfl (by decide) (by decide) (Ret.k (S' := [(.int (c113 + c127))]) rfl ?_)
                  refine Run.as (D' := ([(n106, "treetune/match/Standing", [("treetune/match/Standing", "unitsPerPoint", "J", (.long (c107.toInt64))), ("treetune/match/Standing", "games", "I", (.int (((0 : Int32) + (1 : Int32)) + (((0 : Int32) + (1 : Int32)) + (1 : Int32))))), ("treetune/match/Standing", "first", "I", (.int (c112 + c126))), ("treetune/match/Standing", "wins", "I", (.int (c113 + c127))), ("treetune/match/Standing", "units", "J", (.long (c114 + c128))), ("treetune/match/Standing", "squaredUnits", "J", (.long (c115 + c129))), ("treetune/match/Standing", "losses", "I", (.int (c116 + c130))), ("treetune/match/Standing", "draws", "I", (.int (c117 + c131))), ("treetune/match/Standing", "moves", "J", (.long ((0 : Int64) + (0 : Int64)))), ("treetune/match/Standing", "simulations", "J", (.long ((0 : Int64) + (0 : Int64)))), ("treetune/match/Standing", "positions", "J", (.long ((0 : Int64) + (0 : Int64)))), ("treetune/match/Standing", "decidingNanos", "J", (.long ((0 : Int64) + (0 : Int64))))]), (n109, "treetune/match/Standing", [("treetune/match/Standing", "unitsPerPoint", "J", (.long (c110.toInt64))), ("treetune/match/Standing", "games", "I", (.int (((0 : Int32) + (1 : Int32)) + (1 : Int32)))), ("treetune/match/Standing", "first", "I", (.int c126)), ("treetune/match/Standing", "wins", "I", (.int c127)), ("treetune/match/Standing", "units", "J", (.long c128)), ("treetune/match/Standing", "squaredUnits", "J", (.long c129)), ("treetune/match/Standing", "losses", "I", (.int c130)), ("treetune/match/Standing", "draws", "I", (.int c131)), ("treetune/match/Standing", "moves", "J", (.long (0 : Int64))), ("treetune/match/Standing", "simulations", "J", (.long (0 : Int64))), ("treetune/match/Standing", "positions", "J", (.long (0 : Int64))), ("treetune/match/Standing", "decidingNanos", "J", (.long (0 : Int64)))])], [])) rfl ?_
                  refine Run.iload K at_286 (pc' := 288) rfl rfl ?_
                  refine Run.icmp K at_288 (pT := 325) (pF := 291) (by decide) (by decide) rfl (fun (h288_164 : (c113 + c127) ≠ ((c133 + c135) + c137)) => ?_) (fun (h288_164 : ¬ ((c113 + c127) ≠ ((c133 + c135) + c137))) => ?_)
                  · skip
                    refine Run.iconst K at_325 (pc' := 326) rfl (v := (0 : Int32)) rfl ?_
                    exact J278 _ (Or.inr (Or.inl ⟨h278_163, h288_164, rfl⟩))
                  · skip
                    refine Run.aload K at_291 (pc' := 293) rfl rfl rfl ?_
                    refine Run.callV K at_293 (pc' := 296) rfl (a := n106) (z := (⟨"treetune/match/Standing", "draws", "()I"⟩ : MethodName)) (Cn := "treetune/match/Standing") (i := 0) (hw _ (List.mem_of_getElem? (i := 71) rfl)) (hw _ (List.mem_of_getElem? (i := 72) rfl)) (hw _ (List.mem_of_getElem? (i := 74) rfl)) (hw _ (List.mem_of_getElem? (i := 73) rfl)) (hw _ (List.mem_of_getElem? (i := 3) rfl)) (hw _ (List.mem_of_getElem? (i := 75) rfl)) (by decide) rfl (rm12 l Z a0 n0 hw [] (n106) ((c107.toInt64)) ((((0 : Int32) + (1 : Int32)) + (((0 : Int32) + (1 : Int32)) + (1 : Int32)))) ((c112 + c126)) ((c113 + c127)) ((c114 + c128)) ((c115 + c129)) ((c116 + c130)) ((c117 + c131)) (((0 : Int64) + (0 : Int64))) (((0 : Int64) + (0 : Int64))) (((0 : Int64) + (0 : Int64))) (((0 : Int64) + (0 : Int64))) ([(n109, "treetune/match/Standing", [("treetune/match/Standing", "unitsPerPoint", "J", (.long (c110.toInt64))), ("treetune/match/Standing", "games", "I", (.int (((0 : Int32) + (1 : Int32)) + (1 : Int32)))), ("treetune/match/Standing", "first", "I", (.int c126)), ("treetune/match/Standing", "wins", "I", (.int c127)), ("treetune/match/Standing", "units", "J", (.long c128)), ("treetune/match/Standing", "squaredUnits", "J", (.long c129)), ("treetune/match/Standing", "losses", "I", (.int c130)), ("treetune/match/Standing", "draws", "I", (.int c131)), ("treetune/match/Standing", "moves", "J", (.long (0 : Int64))), ("treetune/match/Standing", "simulations", "J", (.long (0 : Int64))), ("treetune/match/Standing", "positions", "J", (.long (0 : Int64))), ("treetune/match/Standing", "decidingNanos", "J", (.long (0 : Int64)))])]) ([]) ) (argsL := []) (rest := []) rfl rfl pd_6 rfl (W := 0) rfl (by decide) (by decide) (cells' := 2) (slots' := 24) rfl rfl (by decide) (by decide) (Ret.k (S' := [(.int (c117 + c131))]) rfl ?_)
                    refine Run.as (D' := ([(n106, "treetune/match/Standing", [("treetune/match/Standing", "unitsPerPoint", "J", (.long (c107.toInt64))), ("treetune/match/Standing", "games", "I", (.int (((0 : Int32) + (1 : Int32)) + (((0 : Int32) + (1 : Int32)) + (1 : Int32))))), ("treetune/match/Standing", "first", "I", (.int (c112 + c126))), ("treetune/match/Standing", "wins", "I", (.int (c113 + c127))), ("treetune/match/Standing", "units", "J", (.long (c114 + c128))), ("treetune/match/Standing", "squaredUnits", "J", (.long (c115 + c129))), ("treetune/match/Standing", "losses", "I", (.int (c116 + c130))), ("treetune/match/Standing", "draws", "I", (.int (c117 + c131))), ("treetune/match/Standing", "moves", "J", (.long ((0 : Int64) + (0 : Int64)))), ("treetune/match/Standing", "simulations", "J", (.long ((0 : Int64) + (0 : Int64)))), ("treetune/match/Standing", "positions", "J", (.long ((0 : Int64) + (0 : Int64)))), ("treetune/match/Standing", "decidingNanos", "J", (.long ((0 : Int64) + (0 : Int64))))]), (n109, "treetune/match/Standing", [("treetune/match/Standing", "unitsPerPoint", "J", (.long (c110.toInt64))), ("treetune/match/Standing", "games", "I", (.int (((0 : Int32) + (1 : Int32)) + (1 : Int32)))), ("treetune/match/Standing", "first", "I", (.int c126)), ("treetune/match/Standing", "wins", "I", (.int c127)), ("treetune/match/Standing", "units", "J", (.long c128)), ("treetune/match/Standing", "squaredUnits", "J", (.long c129)), ("treetune/match/Standing", "losses", "I", (.int c130)), ("treetune/match/Standing", "draws", "I", (.int c131)), ("treetune/match/Standing", "moves", "J", (.long (0 : Int64))), ("treetune/match/Standing", "simulations", "J", (.long (0 : Int64))), ("treetune/match/Standing", "positions", "J", (.long (0 : Int64))), ("treetune/match/Standing", "decidingNanos", "J", (.long (0 : Int64)))])], [])) rfl ?_
                    refine Run.iload K at_296 (pc' := 298) rfl rfl ?_
                    refine Run.icmp K at_298 (pT := 325) (pF := 301) (by decide) (by decide) rfl (fun (h298_165 : (c117 + c131) ≠ ((c139 + c141) + c143)) => ?_) (fun (h298_165 : ¬ ((c117 + c131) ≠ ((c139 + c141) + c143))) => ?_)
                    · skip
                      refine Run.iconst K at_325 (pc' := 326) rfl (v := (0 : Int32)) rfl ?_
                      exact J278 _ (Or.inr (Or.inr (Or.inl ⟨h278_163, h288_164, h298_165, rfl⟩)))
                    · skip
                      refine Run.aload K at_301 (pc' := 303) rfl rfl rfl ?_
                      refine Run.callV K at_303 (pc' := 306) rfl (a := n106) (z := (⟨"treetune/match/Standing", "losses", "()I"⟩ : MethodName)) (Cn := "treetune/match/Standing") (i := 0) (hw _ (List.mem_of_getElem? (i := 76) rfl)) (hw _ (List.mem_of_getElem? (i := 77) rfl)) (hw _ (List.mem_of_getElem? (i := 79) rfl)) (hw _ (List.mem_of_getElem? (i := 78) rfl)) (hw _ (List.mem_of_getElem? (i := 3) rfl)) (hw _ (List.mem_of_getElem? (i := 80) rfl)) (by decide) rfl (rm13 l Z a0 n0 hw [] (n106) ((c107.toInt64)) ((((0 : Int32) + (1 : Int32)) + (((0 : Int32) + (1 : Int32)) + (1 : Int32)))) ((c112 + c126)) ((c113 + c127)) ((c114 + c128)) ((c115 + c129)) ((c116 + c130)) ((c117 + c131)) (((0 : Int64) + (0 : Int64))) (((0 : Int64) + (0 : Int64))) (((0 : Int64) + (0 : Int64))) (((0 : Int64) + (0 : Int64))) ([(n109, "treetune/match/Standing", [("treetune/match/Standing", "unitsPerPoint", "J", (.long (c110.toInt64))), ("treetune/match/Standing", "games", "I", (.int (((0 : Int32) + (1 : Int32)) + (1 : Int32)))), ("treetune/match/Standing", "first", "I", (.int c126)), ("treetune/match/Standing", "wins", "I", (.int c127)), ("treetune/match/Standing", "units", "J", (.long c128)), ("treetune/match/Standing", "squaredUnits", "J", (.long c129)), ("treetune/match/Standing", "losses", "I", (.int c130)), ("treetune/match/Standing", "draws", "I", (.int c131)), ("treetune/match/Standing", "moves", "J", (.long (0 : Int64))), ("treetune/match/Standing", "simulations", "J", (.long (0 : Int64))), ("treetune/match/Standing", "positions", "J", (.long (0 : Int64))), ("treetune/match/Standing", "decidingNanos", "J", (.long (0 : Int64)))])]) ([]) ) (argsL := []) (rest := []) rfl rfl pd_6 rfl (W := 0) rfl (by decide) (by decide) (cells' := 2) (slots' := 24) rfl rfl (by decide) (by decide) (Ret.k (S' := [(.int (c116 + c130))]) rfl ?_)
                      refine Run.as (D' := ([(n106, "treetune/match/Standing", [("treetune/match/Standing", "unitsPerPoint", "J", (.long (c107.toInt64))), ("treetune/match/Standing", "games", "I", (.int (((0 : Int32) + (1 : Int32)) + (((0 : Int32) + (1 : Int32)) + (1 : Int32))))), ("treetune/match/Standing", "first", "I", (.int (c112 + c126))), ("treetune/match/Standing", "wins", "I", (.int (c113 + c127))), ("treetune/match/Standing", "units", "J", (.long (c114 + c128))), ("treetune/match/Standing", "squaredUnits", "J", (.long (c115 + c129))), ("treetune/match/Standing", "losses", "I", (.int (c116 + c130))), ("treetune/match/Standing", "draws", "I", (.int (c117 + c131))), ("treetune/match/Standing", "moves", "J", (.long ((0 : Int64) + (0 : Int64)))), ("treetune/match/Standing", "simulations", "J", (.long ((0 : Int64) + (0 : Int64)))), ("treetune/match/Standing", "positions", "J", (.long ((0 : Int64) + (0 : Int64)))), ("treetune/match/Standing", "decidingNanos", "J", (.long ((0 : Int64) + (0 : Int64))))]), (n109, "treetune/match/Standing", [("treetune/match/Standing", "unitsPerPoint", "J", (.long (c110.toInt64))), ("treetune/match/Standing", "games", "I", (.int (((0 : Int32) + (1 : Int32)) + (1 : Int32)))), ("treetune/match/Standing", "first", "I", (.int c126)), ("treetune/match/Standing", "wins", "I", (.int c127)), ("treetune/match/Standing", "units", "J", (.long c128)), ("treetune/match/Standing", "squaredUnits", "J", (.long c129)), ("treetune/match/Standing", "losses", "I", (.int c130)), ("treetune/match/Standing", "draws", "I", (.int c131)), ("treetune/match/Standing", "moves", "J", (.long (0 : Int64))), ("treetune/match/Standing", "simulations", "J", (.long (0 : Int64))), ("treetune/match/Standing", "positions", "J", (.long (0 : Int64))), ("treetune/match/Standing", "decidingNanos", "J", (.long (0 : Int64)))])], [])) rfl ?_
                      refine Run.iload K at_306 (pc' := 308) rfl rfl ?_
                      refine Run.icmp K at_308 (pT := 325) (pF := 311) (by decide) (by decide) rfl (fun (h308_166 : (c116 + c130) ≠ ((c145 + c147) + c149)) => ?_) (fun (h308_166 : ¬ ((c116 + c130) ≠ ((c145 + c147) + c149))) => ?_)
                      · skip
                        refine Run.iconst K at_325 (pc' := 326) rfl (v := (0 : Int32)) rfl ?_
                        exact J278 _ (Or.inr (Or.inr (Or.inr (Or.inl ⟨h278_163, h288_164, h298_165, h308_166, rfl⟩))))
                      · skip
                        refine Run.aload K at_311 (pc' := 313) rfl rfl rfl ?_
                        refine Run.callV K at_313 (pc' := 316) rfl (a := n106) (z := (⟨"treetune/match/Standing", "first", "()I"⟩ : MethodName)) (Cn := "treetune/match/Standing") (i := 0) (hw _ (List.mem_of_getElem? (i := 81) rfl)) (hw _ (List.mem_of_getElem? (i := 82) rfl)) (hw _ (List.mem_of_getElem? (i := 84) rfl)) (hw _ (List.mem_of_getElem? (i := 83) rfl)) (hw _ (List.mem_of_getElem? (i := 3) rfl)) (hw _ (List.mem_of_getElem? (i := 85) rfl)) (by decide) rfl (rm14 l Z a0 n0 hw [] (n106) ((c107.toInt64)) ((((0 : Int32) + (1 : Int32)) + (((0 : Int32) + (1 : Int32)) + (1 : Int32)))) ((c112 + c126)) ((c113 + c127)) ((c114 + c128)) ((c115 + c129)) ((c116 + c130)) ((c117 + c131)) (((0 : Int64) + (0 : Int64))) (((0 : Int64) + (0 : Int64))) (((0 : Int64) + (0 : Int64))) (((0 : Int64) + (0 : Int64))) ([(n109, "treetune/match/Standing", [("treetune/match/Standing", "unitsPerPoint", "J", (.long (c110.toInt64))), ("treetune/match/Standing", "games", "I", (.int (((0 : Int32) + (1 : Int32)) + (1 : Int32)))), ("treetune/match/Standing", "first", "I", (.int c126)), ("treetune/match/Standing", "wins", "I", (.int c127)), ("treetune/match/Standing", "units", "J", (.long c128)), ("treetune/match/Standing", "squaredUnits", "J", (.long c129)), ("treetune/match/Standing", "losses", "I", (.int c130)), ("treetune/match/Standing", "draws", "I", (.int c131)), ("treetune/match/Standing", "moves", "J", (.long (0 : Int64))), ("treetune/match/Standing", "simulations", "J", (.long (0 : Int64))), ("treetune/match/Standing", "positions", "J", (.long (0 : Int64))), ("treetune/match/Standing", "decidingNanos", "J", (.long (0 : Int64)))])]) ([]) ) (argsL := []) (rest := []) rfl rfl pd_6 rfl (W := 0) rfl (by decide) (by decide) (cells' := 2) (slots' := 24) rfl rfl (by decide) (by decide) (Ret.k (S' := [(.int (c112 + c126))]) rfl ?_)
                        refine Run.as (D' := ([(n106, "treetune/match/Standing", [("treetune/match/Standing", "unitsPerPoint", "J", (.long (c107.toInt64))), ("treetune/match/Standing", "games", "I", (.int (((0 : Int32) + (1 : Int32)) + (((0 : Int32) + (1 : Int32)) + (1 : Int32))))), ("treetune/match/Standing", "first", "I", (.int (c112 + c126))), ("treetune/match/Standing", "wins", "I", (.int (c113 + c127))), ("treetune/match/Standing", "units", "J", (.long (c114 + c128))), ("treetune/match/Standing", "squaredUnits", "J", (.long (c115 + c129))), ("treetune/match/Standing", "losses", "I", (.int (c116 + c130))), ("treetune/match/Standing", "draws", "I", (.int (c117 + c131))), ("treetune/match/Standing", "moves", "J", (.long ((0 : Int64) + (0 : Int64)))), ("treetune/match/Standing", "simulations", "J", (.long ((0 : Int64) + (0 : Int64)))), ("treetune/match/Standing", "positions", "J", (.long ((0 : Int64) + (0 : Int64)))), ("treetune/match/Standing", "decidingNanos", "J", (.long ((0 : Int64) + (0 : Int64))))]), (n109, "treetune/match/Standing", [("treetune/match/Standing", "unitsPerPoint", "J", (.long (c110.toInt64))), ("treetune/match/Standing", "games", "I", (.int (((0 : Int32) + (1 : Int32)) + (1 : Int32)))), ("treetune/match/Standing", "first", "I", (.int c126)), ("treetune/match/Standing", "wins", "I", (.int c127)), ("treetune/match/Standing", "units", "J", (.long c128)), ("treetune/match/Standing", "squaredUnits", "J", (.long c129)), ("treetune/match/Standing", "losses", "I", (.int c130)), ("treetune/match/Standing", "draws", "I", (.int c131)), ("treetune/match/Standing", "moves", "J", (.long (0 : Int64))), ("treetune/match/Standing", "simulations", "J", (.long (0 : Int64))), ("treetune/match/Standing", "positions", "J", (.long (0 : Int64))), ("treetune/match/Standing", "decidingNanos", "J", (.long (0 : Int64)))])], [])) rfl ?_
                        refine Run.iload K at_316 (pc' := 318) rfl rfl ?_
                        refine Run.icmp K at_318 (pT := 325) (pF := 321) (by decide) (by decide) rfl (fun (h318_167 : (c112 + c126) ≠ ((c151 + c153) + c155)) => ?_) (fun (h318_167 : ¬ ((c112 + c126) ≠ ((c151 + c153) + c155))) => ?_)
                        · skip
                          refine Run.iconst K at_325 (pc' := 326) rfl (v := (0 : Int32)) rfl ?_
                          exact J278 _ (Or.inr (Or.inr (Or.inr (Or.inr (Or.inl ⟨h278_163, h288_164, h298_165, h308_166, h318_167, rfl⟩)))))
                        · skip
                          refine Run.iconst K at_321 (pc' := 322) rfl (v := (1 : Int32)) rfl ?_
                          refine Run.goto K at_322 (pc' := 326) (by decide) (by decide) ?_
                          exact J278 _ (Or.inr (Or.inr (Or.inr (Or.inr (Or.inr (⟨h278_163, h288_164, h298_165, h308_166, h318_167, rfl⟩))))))
            · skip
              refine Run.ifc K at_78 (pT := 85) (pF := 81) (by decide) (by decide) rfl (fun (h78_168 : (p2 &&& (32 : Int32)) = (0 : Int32)) => ?_) (fun (h78_168 : ¬ ((p2 &&& (32 : Int32)) = (0 : Int32))) => ?_)
              · skip
                refine Run.iconst K at_85 (pc' := 86) rfl (v := (0 : Int32)) rfl ?_
                exact J78 _ (Or.inl ⟨h78_168, rfl⟩)
              · skip
                refine Run.iconst K at_81 (pc' := 82) rfl (v := (1 : Int32)) rfl ?_
                refine Run.goto K at_82 (pc' := 86) (by decide) (by decide) ?_
                exact J78 _ (Or.inr (⟨h78_168, rfl⟩))
          · skip
            refine Run.ifc K at_64 (pT := 71) (pF := 67) (by decide) (by decide) rfl (fun (h64_169 : (p2 &&& (16 : Int32)) = (0 : Int32)) => ?_) (fun (h64_169 : ¬ ((p2 &&& (16 : Int32)) = (0 : Int32))) => ?_)
            · skip
              refine Run.iconst K at_71 (pc' := 72) rfl (v := (0 : Int32)) rfl ?_
              exact J64 _ (Or.inl ⟨h64_169, rfl⟩)
            · skip
              refine Run.iconst K at_67 (pc' := 68) rfl (v := (1 : Int32)) rfl ?_
              refine Run.goto K at_68 (pc' := 72) (by decide) (by decide) ?_
              exact J64 _ (Or.inr (⟨h64_169, rfl⟩))
        · skip
          refine Run.ifc K at_50 (pT := 57) (pF := 53) (by decide) (by decide) rfl (fun (h50_170 : (p2 &&& (8 : Int32)) = (0 : Int32)) => ?_) (fun (h50_170 : ¬ ((p2 &&& (8 : Int32)) = (0 : Int32))) => ?_)
          · skip
            refine Run.iconst K at_57 (pc' := 58) rfl (v := (0 : Int32)) rfl ?_
            exact J50 _ (Or.inl ⟨h50_170, rfl⟩)
          · skip
            refine Run.iconst K at_53 (pc' := 54) rfl (v := (1 : Int32)) rfl ?_
            refine Run.goto K at_54 (pc' := 58) (by decide) (by decide) ?_
            exact J50 _ (Or.inr (⟨h50_170, rfl⟩))
      · skip
        refine Run.ifc K at_36 (pT := 43) (pF := 39) (by decide) (by decide) rfl (fun (h36_171 : (p2 &&& (4 : Int32)) = (0 : Int32)) => ?_) (fun (h36_171 : ¬ ((p2 &&& (4 : Int32)) = (0 : Int32))) => ?_)
        · skip
          refine Run.iconst K at_43 (pc' := 44) rfl (v := (0 : Int32)) rfl ?_
          exact J36 _ (Or.inl ⟨h36_171, rfl⟩)
        · skip
          refine Run.iconst K at_39 (pc' := 40) rfl (v := (1 : Int32)) rfl ?_
          refine Run.goto K at_40 (pc' := 44) (by decide) (by decide) ?_
          exact J36 _ (Or.inr (⟨h36_171, rfl⟩))
    · skip
      refine Run.ifc K at_23 (pT := 30) (pF := 26) (by decide) (by decide) rfl (fun (h23_172 : (p2 &&& (2 : Int32)) = (0 : Int32)) => ?_) (fun (h23_172 : ¬ ((p2 &&& (2 : Int32)) = (0 : Int32))) => ?_)
      · skip
        refine Run.iconst K at_30 (pc' := 31) rfl (v := (0 : Int32)) rfl ?_
        exact J23 _ (Or.inl ⟨h23_172, rfl⟩)
      · skip
        refine Run.iconst K at_26 (pc' := 27) rfl (v := (1 : Int32)) rfl ?_
        refine Run.goto K at_27 (pc' := 31) (by decide) (by decide) ?_
        exact J23 _ (Or.inr (⟨h23_172, rfl⟩))
  · skip
    refine Run.ifc K at_10 (pT := 17) (pF := 13) (by decide) (by decide) rfl (fun (h10_173 : (p2 &&& (1 : Int32)) = (0 : Int32)) => ?_) (fun (h10_173 : ¬ ((p2 &&& (1 : Int32)) = (0 : Int32))) => ?_)
    · skip
      refine Run.iconst K at_17 (pc' := 18) rfl (v := (0 : Int32)) rfl ?_
      exact J10 _ (Or.inl ⟨h10_173, rfl⟩)
    · skip
      refine Run.iconst K at_13 (pc' := 14) rfl (v := (1 : Int32)) rfl ?_
      refine Run.goto K at_14 (pc' := 18) (by decide) (by decide) ?_
      exact J10 _ (Or.inr (⟨h10_173, rfl⟩))
set_option maxRecDepth 65536 in
set_option maxHeartbeats 40000000 in
theorem comes_1 {Post : Tables → Env → Array Value → State → Outcome → State → Prop} (hpost : ∀ tb e args s v u, (limb_1_1.after args s (.returned v) u = true ∧ limb_1_2.after args s (.returned v) u = true ∧ True) → FrameEnd s (.returned v) u (Jvm.fieldLocs frame_1_writes args s ++ Jvm.arrayLocs frame_1_arrays args s ++ Jvm.staticLocs frame_1_statics s) 16 128 → Post tb e args s (.returned v) u) :
    ArmFor flags0 classFile x code maxLocals ret World_1 tables_1 room_1 Calls_1 rest_1 Pre_1 Post := by
  intro l hfl _ _ p e ha hc hk s m args below hf hA hF happ hP
  obtain ⟨hcalls, hrest, hpre⟩ := hP
  obtain ⟨-, -, -, hnamed, -, -, -, hat⟩ := (Spec.applies_iff hf).mp happ
  obtain ⟨hg, hn⟩ := and_e (Cond.before_iff.mp (show (Jvm.Cond.and given_1 narrow_1).before args s = true from hpre))
  obtain ⟨g0, q0⟩ := and_e hg
  obtain ⟨w0, w1, w2, w3, w4, rfl⟩ : ∃ w0 w1 w2 w3 w4 : Value, args = #[w0, w1, w2, w3, w4] := by
    have hs : args.size = 5 := by simpa [Cond.value, given_1] using g0
    obtain ⟨L⟩ := args
    match L, hs with
    | [w0, w1, w2, w3, w4], _ => exact ⟨w0, w1, w2, w3, w4, rfl⟩
  have hw := fun d (hd : d ∈ tables_1) => atoms_spec (ws := Jvm.Cond.code x code maxLocals ret :: tables_1) hat d (List.mem_cons_of_mem _ hd)
  obtain ⟨f0, q1⟩ := and_e q0
  obtain ⟨i0, e0⟩ := is_v f0
  obtain rfl : w0 = (.int i0) := Option.some.inj e0
  obtain ⟨f1, q2⟩ := and_e q1
  obtain ⟨i1, e1⟩ := is_v f1
  obtain rfl : w1 = (.int i1) := Option.some.inj e1
  obtain ⟨f2, q3⟩ := and_e q2
  obtain ⟨i2, e2⟩ := is_v f2
  obtain rfl : w2 = (.int i2) := Option.some.inj e2
  obtain ⟨f3, q4⟩ := and_e q3
  obtain ⟨i3, e3⟩ := is_v f3
  obtain rfl : w3 = (.int i3) := Option.some.inj e3
  obtain ⟨i4, e4⟩ := is_v q4
  obtain rfl : w4 = (.int i4) := Option.some.inj e4
  obtain ⟨n, o, h1, h2, h3, _, L, rfl, ⟨N, D', rfl, -⟩, hq⟩ := rm0 l s _ s.heap.size hw tables_1 i0 i1 i2 i3 i4 s.heap ⟨Old.start s, fun _ h => (nomatch h), fun _ h => (nomatch h), List.nodup_nil⟩ p e ha hc hk s m _ below hf ((Spec.applies_iff_loose hf).mp happ).1 ⟨rfl, State.Warmed39.refl s, rfl⟩ trivial
  refine ⟨n, _, h1, h2, h3, hpost _ _ _ _ _ _ ⟨Cond.after_iff.mpr rfl, Cond.after_iff.mpr (eq_i res_at (Term.int_eval (1)) rfl), trivial⟩ ⟨hq.1, hq.2.1, (hq.2.2.sift fun y hy => Or.inr (N y hy)).mono (by decide) (by decide)⟩⟩
theorem main_1_1 : Claimed_1_1 := comes_1 fun _ _ _ _ _ _ h hF => ⟨h.1, hF⟩
theorem main_1_2 : Claimed_1_2 := comes_1 fun _ _ _ _ _ _ h hF => ⟨h.2.1, hF⟩
end Jvm.Pilot.@@N@@
namespace Jvm.Pilot.@@N@@
open Jvm Jvm.ClassFile Sem Op Lib Jvm.Free Jvm.Stand Jvm.Pilot.@@N@@.Jvm.D
/-! MADE BY PROGRAM (witnessworld.py) out of the Statement's table words and the real class files: 10 classes; the members and pool entries that the words name. The judged class is class 1, her method 5. -/
namespace start1
open Jvm.ClassFile
def u (s : String) : CpInfo := .utf8 (stringToUtf16 s)
/-- a pool by its gaps: so many unusable entries, then the entry; so many at the end -/
def gap : Nat → List CpInfo → List CpInfo
  | 0, r => r
  | n + 1, r => .unusable :: gap n r
def poolList (es : List (Nat × CpInfo)) (last : Nat) : List CpInfo := es.foldr (fun e r => gap e.1 (e.2 :: r)) (gap last [])
def pool (es : List (Nat × CpInfo)) (last : Nat) : Array CpInfo := ⟨poolList es last⟩
def fileOf (pool : Array CpInfo) (this : Nat) (attrs : Array Attribute := #[]) (ms : Array MethodInfo := #[]) (fl : Nat := 33) (sup : Nat := 0) (ifs : Array Nat := #[]) (fds : Array FieldInfo := #[]) : ClassFile where
  minorVersion := 0
  majorVersion := 65
  constantPool := pool
  accessFlags := fl
  thisClass := this
  superClass := sup
  interfaces := ifs
  fields := fds
  methods := ms
  attributes := attrs
def plain (name : String) (sup : Option ClassId) : Class where
  name := name
  kind := .ordinary
  loader := none
  accessFlags := 33
  super := sup
  interfaces := #[]
  cf := none
  fields := #[]
  methods := #[]
  instanceTypes := #[]
  staticTypes := #[]
  resolved := #[]
  callSites := []
  init := .initialized
  statics := none
  mirror := none

def pool0 : Array CpInfo := pool [(5, u "<init>"), (0, u "()V"), (1, .class_ 10), (1, u "java/lang/Object")] 113

def k0c0 : Code := { maxStack := 0, maxLocals := 1, code := object_method_1_code, exceptionTable := #[], attributes := #[] }
def k0m0 : Method := { name := "<init>", desc := "()V", sig := { parameters := [], returnType := none }, accessFlags := 1, code := some k0c0 }
/-- java/lang/Object -/
def k0 : Class := { plain "java/lang/Object" none with
  accessFlags := 33
  interfaces := #[]
  cf := some (fileOf pool0 8 #[] #[{ accessFlags := 1, nameIndex := 5, descriptorIndex := 6, attributes := #[] }] 33 0 #[] #[])
  fields := #[]
  methods := #[k0m0]
  instanceTypes := #[]
  staticTypes := #[]
  resolved := Array.replicate 124 none
  statics := none }

def pool1 : Array CpInfo := pool [(2, .class_ 4), (1, u "java/lang/Object"), (0, u "<init>"), (0, u "()V"), (0, .integer 2147483647), (0, .class_ 9), (0, u "treetune/match/Standing"), (0, .methodref 8 11), (0, .nameAndType 5 12), (0, u "(I)V"), (0, .methodref 8 14), (0, .nameAndType 15 16), (0, u "record"), (0, u "(ZIZ)V"), (0, .methodref 8 18), (0, .nameAndType 19 20), (0, u "add"), (0, u "(Ltreetune/match/Standing;)V"), (0, .methodref 22 23), (0, .class_ 24), (0, .nameAndType 25 26), (0, u "treetune/match/StandingAddPinLaw"), (0, u "win"), (0, u "(ZI)I"), (0, .methodref 22 28), (0, .nameAndType 29 26), (0, u "draw"), (0, .methodref 22 31), (0, .nameAndType 32 33), (0, u "loss"), (0, u "(Z)I"), (0, .methodref 22 35), (0, .nameAndType 36 33), (0, u "one"), (0, .methodref 8 38), (0, .nameAndType 39 40), (0, u "games"), (0, u "()I"), (0, .methodref 8 42), (0, .nameAndType 43 40), (0, u "wins"), (0, .methodref 8 45), (0, .nameAndType 46 40), (0, u "draws"), (0, .methodref 8 48), (0, .nameAndType 49 40), (0, u "losses"), (0, .methodref 8 51), (0, .nameAndType 52 40), (0, u "first"), (3, u "law"), (0, u "(IIIII)Z")] 2

def k1m0 : Method := { name := "<init>", desc := "()V", sig := { parameters := [], returnType := none }, accessFlags := 1, code := none }
def k1c1 : Code := { maxStack := 2, maxLocals := 2, code := method_2_code, exceptionTable := #[], attributes := #[] }
def k1m1 : Method := { name := "win", desc := "(ZI)I", sig := { parameters := [.boolean, .int], returnType := some .int }, accessFlags := 10, code := some k1c1 }
def k1c2 : Code := { maxStack := 2, maxLocals := 2, code := method_3_code, exceptionTable := #[], attributes := #[] }
def k1m2 : Method := { name := "draw", desc := "(ZI)I", sig := { parameters := [.boolean, .int], returnType := some .int }, accessFlags := 10, code := some k1c2 }
def k1c3 : Code := { maxStack := 1, maxLocals := 1, code := method_4_code, exceptionTable := #[], attributes := #[] }
def k1m3 : Method := { name := "loss", desc := "(Z)I", sig := { parameters := [.boolean], returnType := some .int }, accessFlags := 10, code := some k1c3 }
def k1c4 : Code := { maxStack := 1, maxLocals := 1, code := method_5_code, exceptionTable := #[], attributes := #[] }
def k1m4 : Method := { name := "one", desc := "(Z)I", sig := { parameters := [.boolean], returnType := some .int }, accessFlags := 10, code := some k1c4 }
def k1c5 : Code := { maxStack := 4, maxLocals := 21, code := code, exceptionTable := #[], attributes := #[] }
def k1m5 : Method := { name := "law", desc := "(IIIII)Z", sig := { parameters := [.int, .int, .int, .int, .int], returnType := some .boolean }, accessFlags := 9, code := some k1c5 }
/-- treetune/match/StandingAddPinLaw -/
def k1 : Class := { plain "treetune/match/StandingAddPinLaw" (some 0) with
  accessFlags := 49
  interfaces := #[]
  cf := some (fileOf pool1 22 #[] #[{ accessFlags := 1, nameIndex := 5, descriptorIndex := 6, attributes := #[] }, { accessFlags := 10, nameIndex := 25, descriptorIndex := 26, attributes := #[] }, { accessFlags := 10, nameIndex := 29, descriptorIndex := 26, attributes := #[] }, { accessFlags := 10, nameIndex := 32, descriptorIndex := 33, attributes := #[] }, { accessFlags := 10, nameIndex := 36, descriptorIndex := 33, attributes := #[] }, { accessFlags := 9, nameIndex := 56, descriptorIndex := 57, attributes := #[] }] 49 2 #[] #[])
  fields := #[]
  methods := #[k1m0, k1m1, k1m2, k1m3, k1m4, k1m5]
  instanceTypes := #[]
  staticTypes := #[]
  resolved := Array.replicate 60 none
  statics := none }

def pool2 : Array CpInfo := pool [(1, .methodref 2 3), (0, .class_ 4), (0, .nameAndType 5 6), (0, u "java/lang/Object"), (0, u "<init>"), (0, u "()V"), (0, .methodref 8 9), (0, .class_ 10), (0, .nameAndType 11 12), (0, u "treetune/match/Match"), (0, u "factorial"), (0, u "(I)I"), (0, .fieldref 14 15), (0, .class_ 16), (0, .nameAndType 17 18), (0, u "treetune/match/Standing"), (0, u "unitsPerPoint"), (0, u "J"), (0, .fieldref 14 20), (0, .nameAndType 21 22), (0, u "games"), (0, u "I"), (0, .fieldref 14 24), (0, .nameAndType 25 22), (0, u "first"), (0, .fieldref 14 27), (0, .nameAndType 28 22), (0, u "losses"), (0, .fieldref 14 30), (0, .nameAndType 31 22), (0, u "wins"), (0, .fieldref 14 33), (0, .nameAndType 34 22), (0, u "draws"), (0, .fieldref 14 36), (0, .nameAndType 37 18), (0, u "units"), (0, .fieldref 14 39), (0, .nameAndType 40 18), (0, u "squaredUnits"), (0, .fieldref 14 42), (0, .nameAndType 43 18), (0, u "moves"), (0, .fieldref 14 45), (0, .nameAndType 46 18), (0, u "simulations"), (0, .fieldref 14 48), (0, .nameAndType 49 18), (0, u "positions"), (0, .fieldref 14 51), (0, .nameAndType 52 18), (0, u "decidingNanos"), (53, u "(I)V"), (2, u "record"), (0, u "(ZIZ)V"), (3, u "add"), (0, u "(Ltreetune/match/Standing;)V"), (0, u "()I")] 7

def k2c0 : Code := { maxStack := 3, maxLocals := 2, code := prog_42_method_1_code, exceptionTable := #[], attributes := #[] }
def k2m0 : Method := { name := "<init>", desc := "(I)V", sig := { parameters := [.int], returnType := none }, accessFlags := 0, code := some k2c0 }
def k2c1 : Code := { maxStack := 7, maxLocals := 6, code := prog_42_method_2_code, exceptionTable := #[], attributes := #[] }
def k2m1 : Method := { name := "record", desc := "(ZIZ)V", sig := { parameters := [.boolean, .int, .boolean], returnType := none }, accessFlags := 0, code := some k2c1 }
def k2c2 : Code := { maxStack := 5, maxLocals := 2, code := prog_42_method_4_code, exceptionTable := #[], attributes := #[] }
def k2m2 : Method := { name := "add", desc := "(Ltreetune/match/Standing;)V", sig := { parameters := [(.object "treetune/match/Standing")], returnType := none }, accessFlags := 0, code := some k2c2 }
def k2c3 : Code := { maxStack := 1, maxLocals := 1, code := prog_42_method_5_code, exceptionTable := #[], attributes := #[] }
def k2m3 : Method := { name := "games", desc := "()I", sig := { parameters := [], returnType := some .int }, accessFlags := 1, code := some k2c3 }
def k2c4 : Code := { maxStack := 1, maxLocals := 1, code := prog_42_method_6_code, exceptionTable := #[], attributes := #[] }
def k2m4 : Method := { name := "wins", desc := "()I", sig := { parameters := [], returnType := some .int }, accessFlags := 1, code := some k2c4 }
def k2c5 : Code := { maxStack := 1, maxLocals := 1, code := prog_42_method_7_code, exceptionTable := #[], attributes := #[] }
def k2m5 : Method := { name := "draws", desc := "()I", sig := { parameters := [], returnType := some .int }, accessFlags := 1, code := some k2c5 }
def k2c6 : Code := { maxStack := 1, maxLocals := 1, code := prog_42_method_8_code, exceptionTable := #[], attributes := #[] }
def k2m6 : Method := { name := "losses", desc := "()I", sig := { parameters := [], returnType := some .int }, accessFlags := 1, code := some k2c6 }
def k2c7 : Code := { maxStack := 1, maxLocals := 1, code := prog_42_method_9_code, exceptionTable := #[], attributes := #[] }
def k2m7 : Method := { name := "first", desc := "()I", sig := { parameters := [], returnType := some .int }, accessFlags := 1, code := some k2c7 }
/-- treetune/match/Standing -/
def k2 : Class := { plain "treetune/match/Standing" (some 0) with
  accessFlags := 49
  interfaces := #[]
  cf := some (fileOf pool2 14 #[] #[{ accessFlags := 0, nameIndex := 5, descriptorIndex := 106, attributes := #[] }, { accessFlags := 0, nameIndex := 109, descriptorIndex := 110, attributes := #[] }, { accessFlags := 0, nameIndex := 114, descriptorIndex := 115, attributes := #[] }, { accessFlags := 1, nameIndex := 21, descriptorIndex := 116, attributes := #[] }, { accessFlags := 1, nameIndex := 31, descriptorIndex := 116, attributes := #[] }, { accessFlags := 1, nameIndex := 34, descriptorIndex := 116, attributes := #[] }, { accessFlags := 1, nameIndex := 28, descriptorIndex := 116, attributes := #[] }, { accessFlags := 1, nameIndex := 25, descriptorIndex := 116, attributes := #[] }] 49 2 #[] #[{ accessFlags := 18, nameIndex := 17, descriptorIndex := 18, attributes := #[] }, { accessFlags := 2, nameIndex := 21, descriptorIndex := 22, attributes := #[] }, { accessFlags := 2, nameIndex := 31, descriptorIndex := 22, attributes := #[] }, { accessFlags := 2, nameIndex := 34, descriptorIndex := 22, attributes := #[] }, { accessFlags := 2, nameIndex := 28, descriptorIndex := 22, attributes := #[] }, { accessFlags := 2, nameIndex := 25, descriptorIndex := 22, attributes := #[] }, { accessFlags := 2, nameIndex := 37, descriptorIndex := 18, attributes := #[] }, { accessFlags := 2, nameIndex := 40, descriptorIndex := 18, attributes := #[] }, { accessFlags := 2, nameIndex := 43, descriptorIndex := 18, attributes := #[] }, { accessFlags := 2, nameIndex := 46, descriptorIndex := 18, attributes := #[] }, { accessFlags := 2, nameIndex := 49, descriptorIndex := 18, attributes := #[] }, { accessFlags := 2, nameIndex := 52, descriptorIndex := 18, attributes := #[] }])
  fields := #[{ name := "unitsPerPoint", type := .long, accessFlags := 18, slot := 0, constantValue := 0 }, { name := "games", type := .int, accessFlags := 2, slot := 1, constantValue := 0 }, { name := "wins", type := .int, accessFlags := 2, slot := 2, constantValue := 0 }, { name := "draws", type := .int, accessFlags := 2, slot := 3, constantValue := 0 }, { name := "losses", type := .int, accessFlags := 2, slot := 4, constantValue := 0 }, { name := "first", type := .int, accessFlags := 2, slot := 5, constantValue := 0 }, { name := "units", type := .long, accessFlags := 2, slot := 6, constantValue := 0 }, { name := "squaredUnits", type := .long, accessFlags := 2, slot := 7, constantValue := 0 }, { name := "moves", type := .long, accessFlags := 2, slot := 8, constantValue := 0 }, { name := "simulations", type := .long, accessFlags := 2, slot := 9, constantValue := 0 }, { name := "positions", type := .long, accessFlags := 2, slot := 10, constantValue := 0 }, { name := "decidingNanos", type := .long, accessFlags := 2, slot := 11, constantValue := 0 }]
  methods := #[k2m0, k2m1, k2m2, k2m3, k2m4, k2m5, k2m6, k2m7]
  instanceTypes := #[.long, .int, .int, .int, .int, .int, .long, .long, .long, .long, .long, .long]
  staticTypes := #[]
  resolved := Array.replicate 124 none
  statics := none }

def pool3 : Array CpInfo := pool [(2, .class_ 4), (1, u "java/lang/Object"), (0, u "<init>"), (0, u "()V"), (0, .methodref 8 9), (0, .class_ 10), (0, .nameAndType 11 12), (0, u "treetune/match/Match"), (0, u "factorial"), (0, u "(I)I"), (179, .class_ 193), (0, u "treetune/match/Match$Outcome")] 153

def k3m0 : Method := { name := "<init>", desc := "()V", sig := { parameters := [], returnType := none }, accessFlags := 2, code := none }
def k3c1 : Code := { maxStack := 3, maxLocals := 1, code := prog_39_method_8_code, exceptionTable := #[], attributes := #[] }
def k3m1 : Method := { name := "factorial", desc := "(I)I", sig := { parameters := [.int], returnType := some .int }, accessFlags := 8, code := some k3c1 }
/-- treetune/match/Match -/
def k3 : Class := { plain "treetune/match/Match" (some 0) with
  accessFlags := 49
  interfaces := #[]
  cf := some (fileOf pool3 8 #[.nestMembers #[192]] #[{ accessFlags := 2, nameIndex := 5, descriptorIndex := 6, attributes := #[] }, { accessFlags := 8, nameIndex := 11, descriptorIndex := 12, attributes := #[] }] 49 2 #[] #[])
  fields := #[]
  methods := #[k3m0, k3m1]
  instanceTypes := #[]
  staticTypes := #[]
  resolved := Array.replicate 347 none
  statics := none }

def pool4 : Array CpInfo := pool [(1, u "java/lang/Cloneable"), (0, .class_ 1), (0, u "java/lang/Object"), (0, .class_ 3)] 3

/-- java/lang/Cloneable -/
def k4 : Class := { plain "java/lang/Cloneable" (some 0) with
  accessFlags := 1537
  interfaces := #[]
  cf := some (fileOf pool4 2 #[] #[] 1537 4 #[] #[])
  fields := #[]
  methods := #[]
  instanceTypes := #[]
  staticTypes := #[]
  resolved := Array.replicate 8 none
  statics := none }

def pool5 : Array CpInfo := pool [(1, u "java/io/Serializable"), (0, .class_ 1), (0, u "java/lang/Object"), (0, .class_ 3)] 3

/-- java/io/Serializable -/
def k5 : Class := { plain "java/io/Serializable" (some 0) with
  accessFlags := 1537
  interfaces := #[]
  cf := some (fileOf pool5 2 #[] #[] 1537 4 #[] #[])
  fields := #[]
  methods := #[]
  instanceTypes := #[]
  staticTypes := #[]
  resolved := Array.replicate 8 none
  statics := none }

/-- the primitive byte -/
def k6 : Class := { plain "byte" none with kind := .primitive 'B', accessFlags := 0x411 }
/-- [B -/
def k7 : Class := { plain "[B" (some 0) with kind := .array 6 .byte, interfaces := #[4, 5], accessFlags := 1041 }

/-- the primitive int -/
def k8 : Class := { plain "int" none with kind := .primitive 'I', accessFlags := 0x411 }
/-- [I -/
def k9 : Class := { plain "[I" (some 0) with kind := .array 8 .int, interfaces := #[4, 5], accessFlags := 1041 }

def heap : Heap := #[]
def classes : Array Class := #[k0, k1, k2, k3, k4, k5, k6, k7, k8, k9]
def interned : List (Array UInt16 × Addr) := []
def slotsUsed : Nat := 0
def theMethod : MethodId := ⟨1, 5⟩
def args0 : Array Value := #[.int 5, .int 5, .int 5, .int 5, .int 5]
def aboutOver (below : List Frame) : State where
  vm := { classes := classes, interned := interned.toArray }
  heap := heap
  slotsUsed := slotsUsed
  threads := #[{ frames := .invoking theMethod args0 :: below }]
def below0 : List Frame := [.native { method := ⟨0, 0⟩, args := #[] }]
def about1 : State := aboutOver below0
def p0 : Program := .bare "" "" ""
def e0 : Env := launch0.env 0 0 0
theorem w_frames : about1.frames = Frame.invoking theMethod args0 :: below0 := rfl
set_option maxRecDepth 65536 in
theorem w_args : argsFit about1.vm theMethod args0 = true := by decide +kernel
set_option maxRecDepth 65536 in
theorem w_heap : heapFits about1 = true := by decide +kernel
set_option maxRecDepth 65536 in
theorem w_runnable : about1.curStatus? = some .runnable := by decide +kernel
set_option maxRecDepth 65536 in
theorem w_alone : about1.alone = true := by decide +kernel
set_option maxRecDepth 65536 in
theorem w_named : about1.methodNamed? x = some theMethod := by decide +kernel
set_option maxRecDepth 65536 in
theorem w_hears : about1.hears theMethod below0 = true := by decide +kernel
set_option maxRecDepth 65536 in
theorem w_ripe : about1.ripe theMethod args0 below0 = true := by decide +kernel
theorem w_running : about1.status = .running := rfl
set_option maxRecDepth 65536 in
theorem w_room : about1.hasRoom e0.platform room_1 = true :=
  launch0.hasRoom_least _ room_1 (by decide +kernel) (by decide +kernel) (by decide +kernel) (by decide +kernel) (by decide +kernel) (by decide +kernel)
theorem allAtoms_all (ts : List Jvm.Cond) (a : Array Jvm.Value) (st : Jvm.State) : (allAtoms ts).before a st = ts.all (fun c => c.before a st) := by
  induction ts with
  | nil => rfl
  | cons c t ih =>
    show (Jvm.Cond.and c (allAtoms t)).before a st = _
    rw [Jvm.Cond.before_and, ih, List.all_cons]
def words1 : List Jvm.Cond := Jvm.Cond.code x code maxLocals ret :: tables_1
/-- a 'code' word, met by the world's own term for the bytes: nothing is compared byte by byte -/
theorem code_word {y : MethodName} {bytes : ByteArray} {mx : Nat} {rt : Option FieldType} {a : Array Value} {s : State} {m : MethodId} {meth : Method} {c : Code} (h1 : s.methodNamed? y = some m) (h2 : s.vm.method? m = some meth) (h3 : meth.code = some c) (h4 : c.code = bytes)
    (h5 : (c.maxLocals == mx && c.exceptionTable.isEmpty && decide (c.maxStack ≤ mostOperands) && decide (meth.sig.returnType = rt) && !meth.locks && decide (parseMethodDescriptor y.desc = some meth.sig)) = true) : (Jvm.Cond.code y bytes mx rt).before a s = true := by
  simp only [Bool.and_eq_true, beq_iff_eq, Bool.not_eq_true', decide_eq_true_eq] at h5
  obtain ⟨⟨⟨⟨⟨g1, g2⟩, g3⟩, g4⟩, g5⟩, g6⟩ := h5
  simp [Cond.before, Cond.holds, Cond.value, h1, h2, h3, h4, g1, g2, g3, g4, g5, g6]
def isCode : Jvm.Cond → Bool
  | .code _ _ _ _ => true
  | _ => false
theorem all_split {L : List Jvm.Cond} {P : Jvm.Cond → Bool} (h1 : L.all (fun c => isCode c || P c) = true) (h2 : ∀ c ∈ L.filter isCode, P c = true) : L.all P = true := by
  refine List.all_eq_true.mpr fun c hc => ?_
  have h := List.all_eq_true.mp h1 c hc
  rcases Bool.eq_false_or_eq_true (isCode c) with hi | hi
  · exact h2 c (List.mem_filter.mpr ⟨hc, hi⟩)
  · simpa [hi] using h
set_option maxRecDepth 65536 in
theorem w_c0 : (Jvm.Cond.code x code maxLocals ret).before args0 about1 = true := code_word (m := ⟨1, 5⟩) (meth := k1m5) (c := k1c5) (by decide +kernel) rfl rfl rfl (by decide +kernel)
set_option maxRecDepth 65536 in
theorem w_c1 : (Jvm.Cond.code ({ cls := "treetune/match/Standing", name := "<init>", desc := "(I)V" } : Jvm.MethodName) prog_42_method_1_code (2 : Nat) (Option.none : Option Jvm.ClassFile.FieldType)).before args0 about1 = true := code_word (m := ⟨2, 0⟩) (meth := k2m0) (c := k2c0) (by decide +kernel) rfl rfl rfl (by decide +kernel)
set_option maxRecDepth 65536 in
theorem w_c2 : (Jvm.Cond.code ({ cls := "java/lang/Object", name := "<init>", desc := "()V" } : Jvm.MethodName) object_method_1_code (1 : Nat) (Option.none : Option Jvm.ClassFile.FieldType)).before args0 about1 = true := code_word (m := ⟨0, 0⟩) (meth := k0m0) (c := k0c0) (by decide +kernel) rfl rfl rfl (by decide +kernel)
set_option maxRecDepth 65536 in
theorem w_c3 : (Jvm.Cond.code ({ cls := "treetune/match/Match", name := "factorial", desc := "(I)I" } : Jvm.MethodName) prog_39_method_8_code (1 : Nat) (Option.some Jvm.ClassFile.FieldType.int)).before args0 about1 = true := code_word (m := ⟨3, 1⟩) (meth := k3m1) (c := k3c1) (by decide +kernel) rfl rfl rfl (by decide +kernel)
set_option maxRecDepth 65536 in
theorem w_c4 : (Jvm.Cond.code ({ cls := "treetune/match/Standing", name := "record", desc := "(ZIZ)V" } : Jvm.MethodName) prog_42_method_2_code (6 : Nat) (Option.none : Option Jvm.ClassFile.FieldType)).before args0 about1 = true := code_word (m := ⟨2, 1⟩) (meth := k2m1) (c := k2c1) (by decide +kernel) rfl rfl rfl (by decide +kernel)
set_option maxRecDepth 65536 in
theorem w_c5 : (Jvm.Cond.code ({ cls := "treetune/match/Standing", name := "add", desc := "(Ltreetune/match/Standing;)V" } : Jvm.MethodName) prog_42_method_4_code (2 : Nat) (Option.none : Option Jvm.ClassFile.FieldType)).before args0 about1 = true := code_word (m := ⟨2, 2⟩) (meth := k2m2) (c := k2c2) (by decide +kernel) rfl rfl rfl (by decide +kernel)
set_option maxRecDepth 65536 in
theorem w_c6 : (Jvm.Cond.code ({ cls := "treetune/match/StandingAddPinLaw", name := "win", desc := "(ZI)I" } : Jvm.MethodName) method_2_code (2 : Nat) (Option.some Jvm.ClassFile.FieldType.int)).before args0 about1 = true := code_word (m := ⟨1, 1⟩) (meth := k1m1) (c := k1c1) (by decide +kernel) rfl rfl rfl (by decide +kernel)
set_option maxRecDepth 65536 in
theorem w_c7 : (Jvm.Cond.code ({ cls := "treetune/match/StandingAddPinLaw", name := "draw", desc := "(ZI)I" } : Jvm.MethodName) method_3_code (2 : Nat) (Option.some Jvm.ClassFile.FieldType.int)).before args0 about1 = true := code_word (m := ⟨1, 2⟩) (meth := k1m2) (c := k1c2) (by decide +kernel) rfl rfl rfl (by decide +kernel)
set_option maxRecDepth 65536 in
theorem w_c8 : (Jvm.Cond.code ({ cls := "treetune/match/StandingAddPinLaw", name := "loss", desc := "(Z)I" } : Jvm.MethodName) method_4_code (1 : Nat) (Option.some Jvm.ClassFile.FieldType.int)).before args0 about1 = true := code_word (m := ⟨1, 3⟩) (meth := k1m3) (c := k1c3) (by decide +kernel) rfl rfl rfl (by decide +kernel)
set_option maxRecDepth 65536 in
theorem w_c9 : (Jvm.Cond.code ({ cls := "treetune/match/StandingAddPinLaw", name := "one", desc := "(Z)I" } : Jvm.MethodName) method_5_code (1 : Nat) (Option.some Jvm.ClassFile.FieldType.int)).before args0 about1 = true := code_word (m := ⟨1, 4⟩) (meth := k1m4) (c := k1c4) (by decide +kernel) rfl rfl rfl (by decide +kernel)
set_option maxRecDepth 65536 in
theorem w_c10 : (Jvm.Cond.code ({ cls := "treetune/match/Standing", name := "games", desc := "()I" } : Jvm.MethodName) prog_42_method_5_code (1 : Nat) (Option.some Jvm.ClassFile.FieldType.int)).before args0 about1 = true := code_word (m := ⟨2, 3⟩) (meth := k2m3) (c := k2c3) (by decide +kernel) rfl rfl rfl (by decide +kernel)
set_option maxRecDepth 65536 in
theorem w_c11 : (Jvm.Cond.code ({ cls := "treetune/match/Standing", name := "wins", desc := "()I" } : Jvm.MethodName) prog_42_method_6_code (1 : Nat) (Option.some Jvm.ClassFile.FieldType.int)).before args0 about1 = true := code_word (m := ⟨2, 4⟩) (meth := k2m4) (c := k2c4) (by decide +kernel) rfl rfl rfl (by decide +kernel)
set_option maxRecDepth 65536 in
theorem w_c12 : (Jvm.Cond.code ({ cls := "treetune/match/Standing", name := "draws", desc := "()I" } : Jvm.MethodName) prog_42_method_7_code (1 : Nat) (Option.some Jvm.ClassFile.FieldType.int)).before args0 about1 = true := code_word (m := ⟨2, 5⟩) (meth := k2m5) (c := k2c5) (by decide +kernel) rfl rfl rfl (by decide +kernel)
set_option maxRecDepth 65536 in
theorem w_c13 : (Jvm.Cond.code ({ cls := "treetune/match/Standing", name := "losses", desc := "()I" } : Jvm.MethodName) prog_42_method_8_code (1 : Nat) (Option.some Jvm.ClassFile.FieldType.int)).before args0 about1 = true := code_word (m := ⟨2, 6⟩) (meth := k2m6) (c := k2c6) (by decide +kernel) rfl rfl rfl (by decide +kernel)
set_option maxRecDepth 65536 in
theorem w_c14 : (Jvm.Cond.code ({ cls := "treetune/match/Standing", name := "first", desc := "()I" } : Jvm.MethodName) prog_42_method_9_code (1 : Nat) (Option.some Jvm.ClassFile.FieldType.int)).before args0 about1 = true := code_word (m := ⟨2, 7⟩) (meth := k2m7) (c := k2c7) (by decide +kernel) rfl rfl rfl (by decide +kernel)
def codes1 : List Jvm.Cond := [Jvm.Cond.code x code maxLocals ret, Jvm.Cond.code ({ cls := "treetune/match/Standing", name := "<init>", desc := "(I)V" } : Jvm.MethodName) prog_42_method_1_code (2 : Nat) (Option.none : Option Jvm.ClassFile.FieldType), Jvm.Cond.code ({ cls := "java/lang/Object", name := "<init>", desc := "()V" } : Jvm.MethodName) object_method_1_code (1 : Nat) (Option.none : Option Jvm.ClassFile.FieldType), Jvm.Cond.code ({ cls := "treetune/match/Match", name := "factorial", desc := "(I)I" } : Jvm.MethodName) prog_39_method_8_code (1 : Nat) (Option.some Jvm.ClassFile.FieldType.int), Jvm.Cond.code ({ cls := "treetune/match/Standing", name := "record", desc := "(ZIZ)V" } : Jvm.MethodName) prog_42_method_2_code (6 : Nat) (Option.none : Option Jvm.ClassFile.FieldType), Jvm.Cond.code ({ cls := "treetune/match/Standing", name := "add", desc := "(Ltreetune/match/Standing;)V" } : Jvm.MethodName) prog_42_method_4_code (2 : Nat) (Option.none : Option Jvm.ClassFile.FieldType), Jvm.Cond.code ({ cls := "treetune/match/StandingAddPinLaw", name := "win", desc := "(ZI)I" } : Jvm.MethodName) method_2_code (2 : Nat) (Option.some Jvm.ClassFile.FieldType.int), Jvm.Cond.code ({ cls := "treetune/match/StandingAddPinLaw", name := "draw", desc := "(ZI)I" } : Jvm.MethodName) method_3_code (2 : Nat) (Option.some Jvm.ClassFile.FieldType.int), Jvm.Cond.code ({ cls := "treetune/match/StandingAddPinLaw", name := "loss", desc := "(Z)I" } : Jvm.MethodName) method_4_code (1 : Nat) (Option.some Jvm.ClassFile.FieldType.int), Jvm.Cond.code ({ cls := "treetune/match/StandingAddPinLaw", name := "one", desc := "(Z)I" } : Jvm.MethodName) method_5_code (1 : Nat) (Option.some Jvm.ClassFile.FieldType.int), Jvm.Cond.code ({ cls := "treetune/match/Standing", name := "games", desc := "()I" } : Jvm.MethodName) prog_42_method_5_code (1 : Nat) (Option.some Jvm.ClassFile.FieldType.int), Jvm.Cond.code ({ cls := "treetune/match/Standing", name := "wins", desc := "()I" } : Jvm.MethodName) prog_42_method_6_code (1 : Nat) (Option.some Jvm.ClassFile.FieldType.int), Jvm.Cond.code ({ cls := "treetune/match/Standing", name := "draws", desc := "()I" } : Jvm.MethodName) prog_42_method_7_code (1 : Nat) (Option.some Jvm.ClassFile.FieldType.int), Jvm.Cond.code ({ cls := "treetune/match/Standing", name := "losses", desc := "()I" } : Jvm.MethodName) prog_42_method_8_code (1 : Nat) (Option.some Jvm.ClassFile.FieldType.int), Jvm.Cond.code ({ cls := "treetune/match/Standing", name := "first", desc := "()I" } : Jvm.MethodName) prog_42_method_9_code (1 : Nat) (Option.some Jvm.ClassFile.FieldType.int)]
set_option maxRecDepth 65536 in
theorem codes_eq : words1.filter isCode = codes1 := rfl
theorem w_codes : ∀ c ∈ words1.filter isCode, c.before args0 about1 = true := by
  rw [codes_eq]
  intro c hc
  simp only [codes1, List.mem_cons, List.not_mem_nil, or_false] at hc
  rcases hc with rfl | rfl | rfl | rfl | rfl | rfl | rfl | rfl | rfl | rfl | rfl | rfl | rfl | rfl | rfl
  · exact w_c0
  · exact w_c1
  · exact w_c2
  · exact w_c3
  · exact w_c4
  · exact w_c5
  · exact w_c6
  · exact w_c7
  · exact w_c8
  · exact w_c9
  · exact w_c10
  · exact w_c11
  · exact w_c12
  · exact w_c13
  · exact w_c14
set_option maxRecDepth 65536 in
theorem w_t1 : (words1.take 24).all (fun c => isCode c || c.before args0 about1) = true := by decide +kernel
set_option maxRecDepth 65536 in
theorem w_t2 : ((words1.drop 24).take 24).all (fun c => isCode c || c.before args0 about1) = true := by decide +kernel
set_option maxRecDepth 65536 in
theorem w_t3 : (((words1.drop 24).drop 24).take 24).all (fun c => isCode c || c.before args0 about1) = true := by decide +kernel
set_option maxRecDepth 65536 in
theorem w_t4 : (((words1.drop 24).drop 24).drop 24).all (fun c => isCode c || c.before args0 about1) = true := by decide +kernel
theorem w_tables : (allAtoms (Jvm.Cond.code x code maxLocals ret :: tables_1)).before args0 about1 = true := by
  rw [allAtoms_all]
  show words1.all (fun c => c.before args0 about1) = true
  refine all_split ?_ w_codes
  rw [← List.take_append_drop 24 words1, List.all_append, w_t1, ← List.take_append_drop 24 (words1.drop 24), List.all_append, w_t2, ← List.take_append_drop 24 ((words1.drop 24).drop 24), List.all_append, w_t3, w_t4]
  rfl
set_option maxRecDepth 65536 in
theorem w_case : (Jvm.Cond.and given_1 narrow_1).before args0 about1 = true := by decide +kernel
theorem w_applies : (headSpec (Jvm.Cond.code x code maxLocals ret :: tables_1) room_1).applies x e0.platform about1 = true :=
  (Spec.applies_iff w_frames).mpr ⟨w_running, w_runnable, w_alone, w_named, w_hears, w_ripe, w_room, w_tables⟩
theorem atStart : AtStart classFile x code maxLocals ret World_1 tables_1 room_1 Calls_1 rest_1 Pre_1 launch0 p0 e0 about1 theMethod args0 below0 :=
  ⟨lists_1, trivial, launch0.admits_env _ _ _, launch0.least_env, fairChoices_fair.cas, fairChoices_fair.clock, w_frames, w_args, w_heap, w_applies, trivial, trivial, w_case⟩
end start1
theorem witness_1 : WitnessClaimed_1 := ⟨start1.p0, start1.e0, start1.about1, start1.theMethod, start1.args0, start1.below0, start1.atStart⟩
end Jvm.Pilot.@@N@@
